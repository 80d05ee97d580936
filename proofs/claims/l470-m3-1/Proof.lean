import JvmDerived
import JvmDerived.Pilot.@@N@@Statement
import JvmDerived.Pilot.@@N@@Code
set_option linter.unusedVariables false
set_option linter.unusedSimpArgs false
namespace Jvm.Pilot.@@N@@
open Jvm Jvm.ClassFile Sem Op Lib Jvm.Free Jvm.Stand Jvm.LawKit Jvm.RoadKit Bundle Jvm.Pilot.@@N@@.Jvm.D
abbrev own_Ends (p : Program) (e : Env) (below : List Frame) (T : State) (g : JFrame) (Q : Outcome → State → Prop) : Prop :=
  ∃ s₂ o, Steps p.tables e below (T.setTop g) s₂ ∧ s₂.status = .running ∧ Ended s₂ below o ∧ Q o s₂
section Own
variable {p : Program} {l : Launch} {e : Env} {R : Room} {s : State} {m : MethodId} {args : Array Value} {below : List Frame} {meth : Method} {c : Code} {T T' : State} {locs : List Loc} {cells slots : Nat}
theorem own_go {g g' : JFrame} {Q : Outcome → State → Prop} (h : ∀ t, Steps p.tables e below (T'.setTop g') t → Steps p.tables e below (T.setTop g) t) (k : own_Ends p e below T' g' Q) : own_Ends p e below T g Q := by
  obtain ⟨s₂, o, h1, h2⟩ := k
  exact ⟨s₂, o, h _ h1, h2⟩
theorem own_start {g g' : JFrame} {Q : Outcome → State → Prop} (h : g = g') (k : own_Ends p e below T g' Q) : own_Ends p e below T g Q := h ▸ k
theorem own_ret (X : Stand p l e R s m args below meth c T locs cells slots) (hlk : meth.locks = false) (hx : p.tables.exec = Jvm.exec) {pc : Nat} {Ls : Array Slot} {w : Value} {t : FieldType} {i : Instr} {rest : List Value} (hret : meth.sig.returnType = some t) (hn : narrow t w = w)
    (hi : (i = .ireturn ∧ (t = .int ∨ t = .boolean ∨ t = .byte ∨ t = .char ∨ t = .short) ∧ ∃ z, w = .int z) ∨ (i = .lreturn ∧ t = .long ∧ ∃ z, w = .long z) ∨ (i = .dreturn ∧ t = .double ∧ ∃ z, w = .double z) ∨ (i = .freturn ∧ t = .float ∧ ∃ z, w = .float z) ∨ (i = .areturn ∧ t.isReference = true ∧ w.isRef = true))
    (hd : decode c.code pc = .ok (i, 1)) {Qv : Option Value → Heap → List Loc → Prop} {C S : Nat} (hq : Qv (some w) T.heap locs) (hc : cells ≤ C) (hs : slots ≤ S) :
    own_Ends p e below T (mkF m pc Ls (w :: rest)) (fun o U' => ∃ v L, o = .returned v ∧ Qv v U'.heap L ∧ FrameEnd s o U' L C S) := by
  obtain ⟨fs, hr, hrun, hended, hW, hsame⟩ := X.leave (v := some w) (fun h => by rw [hret] at h; cases h) hlk
  exact ⟨_, _, retOut X hx hret hn hi hd hr, hrun, hended, _, _, rfl, hq, ⟨_, rfl⟩, hW, hsame.mono hc hs⟩
theorem own_ret0 (X : Stand p l e R s m args below meth c T locs cells slots) (hlk : meth.locks = false) (hx : p.tables.exec = Jvm.exec) {pc : Nat} {Ls : Array Slot} (hret : meth.sig.returnType = none)
    (hd : decode c.code pc = .ok (.return_, 1)) {Qv : Option Value → Heap → List Loc → Prop} {C S : Nat} (hq : Qv none T.heap locs) (hc : cells ≤ C) (hs : slots ≤ S) :
    own_Ends p e below T (mkF m pc Ls []) (fun o U' => ∃ v L, o = .returned v ∧ Qv v U'.heap L ∧ FrameEnd s o U' L C S) := by
  obtain ⟨fs, hr, hrun, hended, hW, hsame⟩ := X.leave (v := none) (fun _ => rfl) hlk
  exact ⟨_, _, X.returnOut hx hret hd hr, hrun, hended, _, _, rfl, hq, ⟨_, rfl⟩, hW, hsame.mono hc hs⟩
theorem own_nr {t : FieldType} {v : Value} (h : v.isRef = true) : narrow t v = v := by cases v <;> first | (cases h; done) | (cases t <;> rfl)
end Own
theorem own_retW {p : Program} {l : Launch} {e : Env} {R : Room} {s : State} {m : MethodId} {args : Array Value} {below : List Frame} {meth : Method} {c : Code} {T : State} {locs : List Loc} {cells slots : Nat} {vm₁ : Vm} (X : Stand p l e R (s.setVm vm₁) m args below meth c T locs cells slots) {n : Nat} (hS : s.Since vm₁ n) (hn' : n ≤ T.heap.size) (hlk : meth.locks = false) (hx : p.tables.exec = Jvm.exec) {pc : Nat} {Ls : Array Slot} {w : Value} {t : FieldType} {i : Instr} {rest : List Value} (hret : meth.sig.returnType = some t) (hn : narrow t w = w)
    (hi : (i = .ireturn ∧ (t = .int ∨ t = .boolean ∨ t = .byte ∨ t = .char ∨ t = .short) ∧ ∃ z, w = .int z) ∨ (i = .lreturn ∧ t = .long ∧ ∃ z, w = .long z) ∨ (i = .dreturn ∧ t = .double ∧ ∃ z, w = .double z) ∨ (i = .freturn ∧ t = .float ∧ ∃ z, w = .float z) ∨ (i = .areturn ∧ t.isReference = true ∧ w.isRef = true))
    (hd : decode c.code pc = .ok (i, 1)) {Qv : Option Value → Heap → List Loc → Prop} {C S : Nat} (hq : Qv (some w) T.heap locs) (hc : cells ≤ C) (hs : slots ≤ S) :
    own_Ends p e below T (mkF m pc Ls (w :: rest)) (fun o U' => ∃ v L, o = .returned v ∧ Qv v U'.heap L ∧ ReturnedEndW s o U' L C S) := by
  obtain ⟨fs, hr, hrun, hended, h1, h2, h3, h4⟩ := X.leaveW hS hn' (v := some w) (fun h => by rw [hret] at h; cases h) hlk
  exact ⟨_, _, retOut X hx hret hn hi hd hr, hrun, hended, _, _, rfl, hq, h1, h2, h3, h4.mono hc hs⟩
theorem own_ret0W {p : Program} {l : Launch} {e : Env} {R : Room} {s : State} {m : MethodId} {args : Array Value} {below : List Frame} {meth : Method} {c : Code} {T : State} {locs : List Loc} {cells slots : Nat} {vm₁ : Vm} (X : Stand p l e R (s.setVm vm₁) m args below meth c T locs cells slots) {n : Nat} (hS : s.Since vm₁ n) (hn' : n ≤ T.heap.size) (hlk : meth.locks = false) (hx : p.tables.exec = Jvm.exec) {pc : Nat} {Ls : Array Slot} (hret : meth.sig.returnType = none)
    (hd : decode c.code pc = .ok (.return_, 1)) {Qv : Option Value → Heap → List Loc → Prop} {C S : Nat} (hq : Qv none T.heap locs) (hc : cells ≤ C) (hs : slots ≤ S) :
    own_Ends p e below T (mkF m pc Ls []) (fun o U' => ∃ v L, o = .returned v ∧ Qv v U'.heap L ∧ ReturnedEndW s o U' L C S) := by
  obtain ⟨fs, hr, hrun, hended, h1, h2, h3, h4⟩ := X.leaveW hS hn' (v := none) (fun _ => rfl) hlk
  exact ⟨_, _, X.returnOut hx hret hd hr, hrun, hended, _, _, rfl, hq, h1, h2, h3, h4.mono hc hs⟩
theorem own_sta_keep {Z : State} {h h' : Heap} {C n d : String} {v : Value} {ws : List Addr} (F : Sta Z h C n d v) (K : Keep h h' ws) (q : ∀ x ∈ ws, ∀ cell : Cell, h[x]? = some cell → cell.vm.isStatics = false) : Sta Z h' C n d v := by
  obtain ⟨cf, i, k, f, st, cell, h1, h2, h3, h4, h5, h6, h7⟩ := F
  refine ⟨cf, i, k, f, st, cell, h1, h2, h3, h4, K.2.1 _ _ h5 (fun m => ?_), h6, h7⟩
  rw [q _ m _ h5] at h6; cases h6
theorem own_ns0 {h : Heap} : ∀ x ∈ ([] : List Addr), ∀ cell : Cell, h[x]? = some cell → cell.vm.isStatics = false := fun _ hx => nomatch hx
theorem own_nsS {h : Heap} {a : Addr} {ws : List Addr} (n : ∀ cell : Cell, h[a]? = some cell → cell.vm.isStatics = false) (r : ∀ x ∈ ws, ∀ cell : Cell, h[x]? = some cell → cell.vm.isStatics = false) : ∀ x ∈ a :: ws, ∀ cell : Cell, h[x]? = some cell → cell.vm.isStatics = false := fun x hx => by
  rcases List.mem_cons.mp hx with rfl | hx
  · exact n
  · exact r x hx
theorem own_nse {Z : State} {h : Heap} {a : Addr} {C : String} (E : Exa Z h a C) : ∀ cell : Cell, h[a]? = some cell → cell.vm.isStatics = false := by
  obtain ⟨c, k, h1, -, -, h4, -⟩ := E
  intro cell hc; cases h1.symm.trans hc; exact h4
theorem own_nsv {Z : State} {h : Heap} {a : Addr} {k : ClassId} {ty : FieldType} {z : Int32} {vs : List Value} {d : Value} (E : Arv Z h a k ty z vs d) : ∀ cell : Cell, h[a]? = some cell → cell.vm.isStatics = false := by
  obtain ⟨c, A, -⟩ := E
  intro cell hc; cases A.1.symm.trans hc; exact A.plain
def own_C (c : Int32) : Prop := 48 ≤ c.toInt ∧ c.toInt ≤ 111
def own_chr (v k : Int32) : Int32 := ((48 : Int32) + ((v.toUInt32 >>> (k &&& 31).toUInt32).toInt32 &&& (63 : Int32))).toUInt32.toUInt16.toUInt32.toInt32
theorem own_chr_aux {y : Int32} (h : 0 ≤ y.toInt ∧ y.toInt ≤ 63) : own_C (((48 : Int32) + y).toUInt32.toUInt16.toUInt32.toInt32) := by
  unfold own_C
  have h2 := c_iadd 48 y
  have h3 := c_i2c (48 + y)
  have h4 := rng32 (48 + y)
  have e48 : (48 : Int32).toInt = 48 := rfl
  rw [e48] at h2
  omega
theorem own_chr_C (v k : Int32) : own_C (own_chr v k) := by
  refine own_chr_aux ?_
  have h := c_and ((v.toUInt32 >>> (k &&& 31).toUInt32).toInt32) 63 (by decide)
  have e : (63 : Int32).toInt = 63 := rfl
  rw [e] at h; exact h
theorem own_nc {c : Int32} (h : own_C c) : nar .char c = c := by
  show c.toUInt32.toUInt16.toUInt32.toInt32 = c
  have h1 := c_i2c c
  unfold own_C at h; rw [← Int32.toInt_inj]; omega
theorem own_i2b {c : Int32} (h : own_C c) : c.toInt8.toInt32 = c := by
  have h1 := c_i2b c
  unfold own_C at h; rw [← Int32.toInt_inj]; omega
theorem own_nb2 {c : Int32} (h : own_C c) : nar .byte c.toInt8.toInt32 = c := by
  show c.toInt8.toInt32.toInt8.toInt32 = c
  rw [own_i2b h, own_i2b h]
theorem own_fitb {c : Int32} (h : own_C c) : fits .byte (.int c) = true := by
  have q := fits_nar_byte c; rw [own_i2b h] at q; exact q
theorem own_fitc {c : Int32} (h : own_C c) : fits .char (.int c) = true := by
  have q := fits_nar_char c; rw [own_nc h] at q; exact q
theorem own_l1 {c : Int32} (h : own_C c) : (c &&& 255).toUInt32.toUInt16.toUInt32.toInt32 = c := by
  rw [i2c_mask]
  have q := c_mask c 255 8 (by decide) (by decide)
  unfold own_C at h; rw [← Int32.toInt_inj]; omega
theorem own_narc {c : Int32} (h : own_C c) : narrow .char (.int c) = .int c := congrArg Value.int (show c.toUInt32.toUInt16.toUInt32.toInt32 = c from own_nc h)
theorem own_c31 {c : Int32} (h : own_C c) : (31 : Int32) < c := by
  rw [Int32.lt_iff_toInt_lt]; have e : (31 : Int32).toInt = 31 := rfl
  unfold own_C at h; omega
theorem own_c127 {c : Int32} (h : own_C c) : c < (127 : Int32) := by
  rw [Int32.lt_iff_toInt_lt]; have e : (127 : Int32).toInt = 127 := rfl
  unfold own_C at h; omega
theorem own_c255 {c : Int32} (h : own_C c) : ¬ (255 : Int32) < c := by
  rw [Int32.lt_iff_toInt_lt]; have e : (255 : Int32).toInt = 255 := rfl
  unfold own_C at h; omega
theorem own_cnn {c : Int32} (h : own_C c) : ¬ c < (0 : Int32) := by
  rw [Int32.lt_iff_toInt_lt]; have e : (0 : Int32).toInt = 0 := rfl
  unfold own_C at h; omega
theorem own_cne {c k : Int32} (h : own_C c) (hk : k.toInt < 48) : ¬ c = k := fun e => by
  subst e; unfold own_C at h; omega
def own_OK (z : Int32) (cs : List Int32) : Prop := (∃ a, z = 1 ∧ cs = [a] ∧ own_C a) ∨ (∃ a b, z = 2 ∧ cs = [a, b] ∧ own_C a ∧ own_C b) ∨ (∃ a b c, z = 3 ∧ cs = [a, b, c] ∧ own_C a ∧ own_C b ∧ own_C c)
theorem own_okcap {z : Int32} {cs : List Int32} (h : own_OK z cs) : z.toNatClampNeg ≤ 3 := by
  rcases h with ⟨_, rfl, _⟩ | ⟨_, _, rfl, _⟩ | ⟨_, _, _, rfl, _⟩ <;> decide
def own_ln (la : Int32) : Int32 := if la = 1 then 1 else if la = 2 then 2 else 3
def own_nm (la a b c : Int32) : List Int32 := if la = 1 then [a] else if la = 2 then [a, b] else [a, b, c]
theorem own_nm_ok {la a b c : Int32} (ha : own_C a) (hb : own_C b) (hc : own_C c) : own_OK (own_ln la) (own_nm la a b c) := by
  unfold own_ln own_nm
  by_cases h1 : la = 1
  · rw [if_pos h1, if_pos h1]; exact Or.inl ⟨a, rfl, rfl, ha⟩
  · rw [if_neg h1, if_neg h1]
    by_cases h2 : la = 2
    · rw [if_pos h2, if_pos h2]; exact Or.inr (Or.inl ⟨a, b, rfl, rfl, ha, hb⟩)
    · rw [if_neg h2, if_neg h2]; exact Or.inr (Or.inr ⟨a, b, c, rfl, rfl, ha, hb, hc⟩)
def own_eqv (cs ds : List Int32) : Int32 := if cs = ds then 1 else 0
theorem own_eqv1 {cs ds : List Int32} (h : ¬ own_eqv cs ds = 0) : own_eqv cs ds = 1 := by
  unfold own_eqv at *; by_cases q : cs = ds
  · rw [if_pos q]
  · rw [if_neg q] at h; exact absurd rfl h
theorem own_eqv_comm (cs ds : List Int32) : own_eqv cs ds = own_eqv ds cs := by
  unfold own_eqv; by_cases q : cs = ds
  · rw [if_pos q, if_pos q.symm]
  · rw [if_neg q, if_neg (fun e => q e.symm)]
def own_same (la lb a0 a1 a2 b0 b1 b2 : Int32) : Int32 := if la = lb then (if a0 = b0 then (if la < 2 then (if la < 3 then 1 else if a2 = b2 then 1 else 0) else if a1 = b1 then (if la < 3 then 1 else if a2 = b2 then 1 else 0) else 0) else 0) else 0
theorem own_key {la lb : Int32} (hla : la = 1 ∨ la = 2 ∨ la = 3) (hlb : lb = 1 ∨ lb = 2 ∨ lb = 3) (a0 a1 a2 b0 b1 b2 : Int32) : own_eqv (own_nm la a0 a1 a2) (own_nm lb b0 b1 b2) = own_same la lb a0 a1 a2 b0 b1 b2 := by
  by_cases h0 : a0 = b0 <;> by_cases h1 : a1 = b1 <;> by_cases h2 : a2 = b2 <;> rcases hla with rfl | rfl | rfl <;> rcases hlb with rfl | rfl | rfl <;> simp +decide [own_eqv, own_nm, own_same, h0, h1, h2]
theorem own_13 {y : Int32} (h : 0 ≤ y.toInt) : 1 + y % 3 = 1 ∨ 1 + y % 3 = 2 ∨ 1 + y % 3 = 3 := by
  have h2 := (c_irem y 3 3 rfl).1 h
  have h3 := c_iadd 1 (y % 3)
  have h4 := rng32 (1 + y % 3)
  simp only [← Int32.toInt_inj]
  have e1 : (1 : Int32).toInt = 1 := rfl
  have e2 : (2 : Int32).toInt = 2 := rfl
  have e3 : (3 : Int32).toInt = 3 := rfl
  omega
theorem own_la (x : Int32) : 1 + (x &&& 2147483647) % 3 = 1 ∨ 1 + (x &&& 2147483647) % 3 = 2 ∨ 1 + (x &&& 2147483647) % 3 = 3 := own_13 (c_and x 2147483647 (by decide)).1
theorem own_lb (x : Int32) : 1 + ((x.toUInt32 >>> ((2 : Int32) &&& 31).toUInt32).toInt32) % 3 = 1 ∨ 1 + ((x.toUInt32 >>> ((2 : Int32) &&& 31).toUInt32).toInt32) % 3 = 2 ∨ 1 + ((x.toUInt32 >>> ((2 : Int32) &&& 31).toUInt32).toInt32) % 3 = 3 := own_13 (by rw [c_iushr x 2 2 (by decide) (by decide)]; omega)
theorem own_noinst {Z : State} {a0 : Array Value} {C O K : String} {n : Nat} (w1 : (Jvm.Cond.superclass C O).before a0 Z = true) (w2 : (Jvm.Cond.noSuperclass O).before a0 Z = true) (w3 : (Jvm.Cond.instantiable K n).before a0 Z = true) (h1 : C ≠ K) (h2 : O ≠ K) : ∃ c t, Z.vm.findClass C = some c ∧ Z.vm.findClass K = some t ∧ Z.vm.assignable c t = false := by
  obtain ⟨t, kt, g1, g2, g3, g4, -, -⟩ := Cond.instantiable_spec w3
  obtain ⟨o, ko, q1, q2, q3, -, -⟩ := Cond.noSuperclass_spec w2
  obtain ⟨c, c1⟩ := found_sup w1
  obtain ⟨p, k, kp, p1, p2, p3, p4, p5, -, -⟩ := Cond.superclass_spec c1 w1
  cases q1.symm.trans p1
  have ne1 := ids_ne c1 g1 h1
  have ne2 := ids_ne q1 g1 h2
  have gi : kt.isInterface = false := (Bool.or_eq_false_iff.mp g4).1
  have ns : ∀ fuel, Z.vm.isSubclassAux fuel o t = false := fun fuel => by
    cases fuel with
    | zero => rfl
    | succ f => simp [Vm.isSubclassAux, ne2, q2, q3]
  have ns' : ∀ fuel, Z.vm.isSubclassAux fuel c t = false := fun fuel => by
    cases fuel with
    | zero => rfl
    | succ f => simp [Vm.isSubclassAux, ne1, p2, p4, ns]
  refine ⟨c, t, c1, g1, ?_⟩
  show Z.vm.assignableAux (255 + 1) c t = false
  simp [Vm.assignableAux, ne1, p2, g2, p5, g3, gi, Vm.isSubclass, ns']

theorem own_d_method_2_code_0 : decode method_2_code 0 = .ok (.bipush 48, 2) := by decide +kernel
theorem own_d_method_2_code_2 : decode method_2_code 2 = .ok (.iload_n 0, 1) := by decide +kernel
theorem own_d_method_2_code_3 : decode method_2_code 3 = .ok (.iload_n 1, 1) := by decide +kernel
theorem own_d_method_2_code_4 : decode method_2_code 4 = .ok (.iushr, 1) := by decide +kernel
theorem own_d_method_2_code_5 : decode method_2_code 5 = .ok (.bipush 63, 2) := by decide +kernel
theorem own_d_method_2_code_7 : decode method_2_code 7 = .ok (.iand, 1) := by decide +kernel
theorem own_d_method_2_code_8 : decode method_2_code 8 = .ok (.iadd, 1) := by decide +kernel
theorem own_d_method_2_code_9 : decode method_2_code 9 = .ok (.i2c, 1) := by decide +kernel
theorem own_d_method_2_code_10 : decode method_2_code 10 = .ok (.ireturn, 1) := by decide +kernel
def Q_own_rch (pv kv : Int32) (h0 : Heap) (n0 : Nat) (v : Option Value) (h : Heap) (L : List Loc) : Prop := v = some (.int (own_chr pv kv)) ∧ L = [] ∧ h = h0
set_option maxRecDepth 65536 in
set_option maxHeartbeats 40000000 in
theorem own_rch (l : Launch) (Z : State) (a0 : Array Value) (hw : ∀ d ∈ tables_1, d.before a0 Z = true) (ws : List Jvm.Cond) (pv kv : Int32) (h0 : Heap) (n0 : Nat) (Z0 : n0 ≤ h0.size)  :
    MetFree l (⟨"com/example/events_in_order/eventsinorder/model/TopicEqualsPinLaw", "ch", "(II)C"⟩ : MethodName) (head1 (Jvm.Cond.code (⟨"com/example/events_in_order/eventsinorder/model/TopicEqualsPinLaw", "ch", "(II)C"⟩ : MethodName) method_2_code 2 (some .char) :: ws) ({ frames := 0, cells := 0, slots := 0, locals := 0 } : Room)) (fun au Uu => au = #[(.int pv), (.int kv)] ∧ Z.Warmed39 Uu.vm ∧ Uu.heap = h0) (fun _ _ _ _ _ => True) (fun _ Uu ou Uw => ∃ vu Lu, ou = .returned vu ∧ Q_own_rch pv kv h0 n0 vu Uw.heap Lu ∧ FrameEnd Uu ou Uw Lu ({ frames := 0, cells := 0, slots := 0, locals := 0 } : Room).cells ({ frames := 0, cells := 0, slots := 0, locals := 0 } : Room).slots) := by
  refine MetFree.of_bodySF (plainFor_of_name (by first | (simp [plainName, overriddenIn]; done) | decide +kernel)) hisR ?_
  intro p e s m args below meth c s₁ Bd hml0 hP hK
  obtain ⟨rfl, hZ, hh⟩ := hP
  have hx := Bd.exec
  have hby := Bd.bytes
  have hlk := Bd.notSynchronized
  have hml : c.maxLocals = 2 := hml0
  have hown : s.vm.findClass "com/example/events_in_order/eventsinorder/model/TopicEqualsPinLaw" = some m.cls := findClass_of_methodNamed Bd.named
  have hnm := (name_of_methodNamed Bd.named Bd.method).1
  have X0 : Stand p l e ({ frames := 0, cells := 0, slots := 0, locals := 0 } : Room) s m #[(.int pv), (.int kv)] below meth c s₁ [] 0 0 := Stand.of_body Bd
  have e0 : s₁.heap = h0 := by rw [← hh, Bd.state]; rfl
  have N0 := Fr.nil n0
  show own_Ends p e below s₁ (entryFrame m #[(.int pv), (.int kv)] 2) (fun ou Uw => ∃ vu Lu, ou = .returned vu ∧ Q_own_rch pv kv h0 n0 vu Uw.heap Lu ∧ FrameEnd s ou Uw Lu ({ frames := 0, cells := 0, slots := 0, locals := 0 } : Room).cells ({ frames := 0, cells := 0, slots := 0, locals := 0 } : Room).slots)
  refine own_start (g' := (mkF m 0 #[iv pv, iv kv] [])) (by first | (simp [entryFrame, mkF, argsToLocals, Value.category, iv, rv]; done) | rfl) ?_
  refine own_go (T' := s₁) (g' := (mkF m 2 #[iv pv, iv kv] [(.int (48 : Int32))])) (fun t k => XS.bipush X0.here hx rfl (hb hby own_d_method_2_code_0) k) ?_
  refine own_go (T' := s₁) (g' := (mkF m 3 #[iv pv, iv kv] [(.int pv), (.int (48 : Int32))])) (fun t k => XS.iloadN X0.here hx rfl (hb hby own_d_method_2_code_2) rfl k) ?_
  refine own_go (T' := s₁) (g' := (mkF m 4 #[iv pv, iv kv] [(.int kv), (.int pv), (.int (48 : Int32))])) (fun t k => XS.iloadN X0.here hx rfl (hb hby own_d_method_2_code_3) rfl k) ?_
  refine own_go (T' := s₁) (g' := (mkF m 5 #[iv pv, iv kv] [(.int ((pv.toUInt32 >>> (kv &&& 31).toUInt32).toInt32)), (.int (48 : Int32))])) (fun t k => XS.iushr X0.here hx rfl (hb hby own_d_method_2_code_4) rfl k) ?_
  refine own_go (T' := s₁) (g' := (mkF m 7 #[iv pv, iv kv] [(.int (63 : Int32)), (.int ((pv.toUInt32 >>> (kv &&& 31).toUInt32).toInt32)), (.int (48 : Int32))])) (fun t k => XS.bipush X0.here hx rfl (hb hby own_d_method_2_code_5) k) ?_
  refine own_go (T' := s₁) (g' := (mkF m 8 #[iv pv, iv kv] [(.int (((pv.toUInt32 >>> (kv &&& 31).toUInt32).toInt32) &&& (63 : Int32))), (.int (48 : Int32))])) (fun t k => XS.iand X0.here hx rfl (hb hby own_d_method_2_code_7) rfl k) ?_
  refine own_go (T' := s₁) (g' := (mkF m 9 #[iv pv, iv kv] [(.int ((48 : Int32) + (((pv.toUInt32 >>> (kv &&& 31).toUInt32).toInt32) &&& (63 : Int32))))])) (fun t k => XS.iadd X0.here hx rfl (hb hby own_d_method_2_code_8) rfl k) ?_
  refine own_go (T' := s₁) (g' := (mkF m 10 #[iv pv, iv kv] [(.int (((48 : Int32) + (((pv.toUInt32 >>> (kv &&& 31).toUInt32).toInt32) &&& (63 : Int32))).toUInt32.toUInt16.toUInt32.toInt32))])) (fun t k => XS.i2c X0.here hx rfl (hb hby own_d_method_2_code_9) rfl k) ?_
  exact own_ret X0 hlk hx Bd.returns (own_narc (own_chr_C pv kv)) (Or.inl ⟨rfl, Or.inr (Or.inr (Or.inr (Or.inl rfl))), _, rfl⟩) (hb hby own_d_method_2_code_10) ⟨rfl, rfl, e0⟩ (by decide) (by decide)

theorem own_d_jdk_52_method_21_code_0 : decode jdk_52_method_21_code 0 = .ok (.iconst 0, 1) := by decide +kernel
theorem own_d_jdk_52_method_21_code_1 : decode jdk_52_method_21_code 1 = .ok (.istore 5, 2) := by decide +kernel
theorem own_d_jdk_52_method_21_code_3 : decode jdk_52_method_21_code 3 = .ok (.iload 5, 2) := by decide +kernel
theorem own_d_jdk_52_method_21_code_5 : decode jdk_52_method_21_code 5 = .ok (.iload 4, 2) := by decide +kernel
theorem own_d_jdk_52_method_21_code_7 : decode jdk_52_method_21_code 7 = .ok (.if_icmp .ge 37, 3) := by decide +kernel
theorem own_d_jdk_52_method_21_code_10 : decode jdk_52_method_21_code 10 = .ok (.aload_n 0, 1) := by decide +kernel
theorem own_d_jdk_52_method_21_code_11 : decode jdk_52_method_21_code 11 = .ok (.iload_n 1, 1) := by decide +kernel
theorem own_d_jdk_52_method_21_code_12 : decode jdk_52_method_21_code 12 = .ok (.caload, 1) := by decide +kernel
theorem own_d_jdk_52_method_21_code_13 : decode jdk_52_method_21_code 13 = .ok (.istore 6, 2) := by decide +kernel
theorem own_d_jdk_52_method_21_code_15 : decode jdk_52_method_21_code 15 = .ok (.iload 6, 2) := by decide +kernel
theorem own_d_jdk_52_method_21_code_17 : decode jdk_52_method_21_code 17 = .ok (.sipush 255, 3) := by decide +kernel
theorem own_d_jdk_52_method_21_code_20 : decode jdk_52_method_21_code 20 = .ok (.if_icmp .le 6, 3) := by decide +kernel
theorem own_d_jdk_52_method_21_code_26 : decode jdk_52_method_21_code 26 = .ok (.aload_n 2, 1) := by decide +kernel
theorem own_d_jdk_52_method_21_code_27 : decode jdk_52_method_21_code 27 = .ok (.iload_n 3, 1) := by decide +kernel
theorem own_d_jdk_52_method_21_code_28 : decode jdk_52_method_21_code 28 = .ok (.iload 6, 2) := by decide +kernel
theorem own_d_jdk_52_method_21_code_30 : decode jdk_52_method_21_code 30 = .ok (.i2b, 1) := by decide +kernel
theorem own_d_jdk_52_method_21_code_31 : decode jdk_52_method_21_code 31 = .ok (.bastore, 1) := by decide +kernel
theorem own_d_jdk_52_method_21_code_32 : decode jdk_52_method_21_code 32 = .ok (.iinc 1 1, 3) := by decide +kernel
theorem own_d_jdk_52_method_21_code_35 : decode jdk_52_method_21_code 35 = .ok (.iinc 3 1, 3) := by decide +kernel
theorem own_d_jdk_52_method_21_code_38 : decode jdk_52_method_21_code 38 = .ok (.iinc 5 1, 3) := by decide +kernel
theorem own_d_jdk_52_method_21_code_41 : decode jdk_52_method_21_code 41 = .ok (.goto (-38), 3) := by decide +kernel
theorem own_d_jdk_52_method_21_code_44 : decode jdk_52_method_21_code 44 = .ok (.iload 4, 2) := by decide +kernel
theorem own_d_jdk_52_method_21_code_46 : decode jdk_52_method_21_code 46 = .ok (.ireturn, 1) := by decide +kernel
def Q_own_rc5_1 (Z : State) (b : Addr) (kb : ClassId) (c0 : Int32) (h0 : Heap) (n0 : Nat) (v : Option Value) (h : Heap) (L : List Loc) : Prop := v = some (.int (1 : Int32)) ∧ Fr n0 L ∧ Keep h0 h [b] ∧ Arv Z h b kb .byte (1 : Int32) [(.int c0)] (.int (0 : Int32))
set_option maxRecDepth 65536 in
set_option maxHeartbeats 40000000 in
theorem own_rc5_1 (l : Launch) (Z : State) (a0 : Array Value) (hw : ∀ d ∈ tables_1, d.before a0 Z = true) (ws : List Jvm.Cond) (a b : Addr) (ka kb : ClassId) (c0 : Int32) (h0 : Heap) (n0 : Nat) (Z0 : n0 ≤ h0.size) (V_a : Arv Z h0 a ka .char (1 : Int32) [(.int c0)] (.int (0 : Int32))) (V_b : Arv Z h0 b kb .byte (1 : Int32) [(.int (0 : Int32))] (.int (0 : Int32))) (g_b : n0 ≤ b) (n_ab : a ≠ b) (q0 : own_C c0) :
    MetFree l (⟨"java/lang/StringUTF16", "compress", "([CI[BII)I"⟩ : MethodName) (head1 (Jvm.Cond.code (⟨"java/lang/StringUTF16", "compress", "([CI[BII)I"⟩ : MethodName) jdk_52_method_21_code 7 (some .int) :: ws) ({ frames := 0, cells := 0, slots := 0, locals := 0 } : Room)) (fun au Uu => au = #[(.ref a), (.int (0 : Int32)), (.ref b), (.int (0 : Int32)), (.int (1 : Int32))] ∧ Z.Warmed39 Uu.vm ∧ Uu.heap = h0) (fun _ _ _ _ _ => True) (fun _ Uu ou Uw => ∃ vu Lu, ou = .returned vu ∧ Q_own_rc5_1 Z b kb c0 h0 n0 vu Uw.heap Lu ∧ FrameEnd Uu ou Uw Lu ({ frames := 0, cells := 0, slots := 0, locals := 0 } : Room).cells ({ frames := 0, cells := 0, slots := 0, locals := 0 } : Room).slots) := by
  refine MetFree.of_bodySF (plainFor_of_name (by first | (simp [plainName, overriddenIn]; done) | decide +kernel)) hisR ?_
  intro p e s m args below meth c s₁ Bd hml0 hP hK
  obtain ⟨rfl, hZ, hh⟩ := hP
  have hx := Bd.exec
  have hby := Bd.bytes
  have hlk := Bd.notSynchronized
  have hml : c.maxLocals = 7 := hml0
  have hown : s.vm.findClass "java/lang/StringUTF16" = some m.cls := findClass_of_methodNamed Bd.named
  have hnm := (name_of_methodNamed Bd.named Bd.method).1
  have X0 : Stand p l e ({ frames := 0, cells := 0, slots := 0, locals := 0 } : Room) s m #[(.ref a), (.int (0 : Int32)), (.ref b), (.int (0 : Int32)), (.int (1 : Int32))] below meth c s₁ [] 0 0 := Stand.of_body Bd
  have e0 : s₁.heap = h0 := by rw [← hh, Bd.state]; rfl
  have N0 := Fr.nil n0
  show own_Ends p e below s₁ (entryFrame m #[(.ref a), (.int (0 : Int32)), (.ref b), (.int (0 : Int32)), (.int (1 : Int32))] 7) (fun ou Uw => ∃ vu Lu, ou = .returned vu ∧ Q_own_rc5_1 Z b kb c0 h0 n0 vu Uw.heap Lu ∧ FrameEnd s ou Uw Lu ({ frames := 0, cells := 0, slots := 0, locals := 0 } : Room).cells ({ frames := 0, cells := 0, slots := 0, locals := 0 } : Room).slots)
  refine own_start (g' := (mkF m 0 #[rv a, iv (0 : Int32), rv b, iv (0 : Int32), iv (1 : Int32), .unset, .unset] [])) (by first | (simp [entryFrame, mkF, argsToLocals, Value.category, iv, rv]; done) | rfl) ?_
  refine own_go (T' := s₁) (g' := (mkF m 1 #[rv a, iv (0 : Int32), rv b, iv (0 : Int32), iv (1 : Int32), .unset, .unset] [(.int (0 : Int32))])) (fun t k => XS.iconst X0.here hx rfl (hb hby own_d_jdk_52_method_21_code_0) k) ?_
  refine own_go (T' := s₁) (g' := (mkF m 3 #[rv a, iv (0 : Int32), rv b, iv (0 : Int32), iv (1 : Int32), iv (0 : Int32), .unset] [])) (fun t k => XS.istore X0.here hx rfl (hb hby own_d_jdk_52_method_21_code_1) rfl (l' := #[rv a, iv (0 : Int32), rv b, iv (0 : Int32), iv (1 : Int32), iv (0 : Int32), .unset]) rfl k) ?_
  refine own_go (T' := s₁) (g' := (mkF m 5 #[rv a, iv (0 : Int32), rv b, iv (0 : Int32), iv (1 : Int32), iv (0 : Int32), .unset] [(.int (0 : Int32))])) (fun t k => XS.iload X0.here hx rfl (hb hby own_d_jdk_52_method_21_code_3) rfl k) ?_
  refine own_go (T' := s₁) (g' := (mkF m 7 #[rv a, iv (0 : Int32), rv b, iv (0 : Int32), iv (1 : Int32), iv (0 : Int32), .unset] [(.int (1 : Int32)), (.int (0 : Int32))])) (fun t k => XS.iload X0.here hx rfl (hb hby own_d_jdk_52_method_21_code_5) rfl k) ?_
  refine own_go (T' := s₁) (g' := (mkF m 10 #[rv a, iv (0 : Int32), rv b, iv (0 : Int32), iv (1 : Int32), iv (0 : Int32), .unset] [])) (fun t k => XS.icmpNo X0.here hx rfl (hb hby own_d_jdk_52_method_21_code_7) rfl (tlt (by decide : ((0 : Int32) < (1 : Int32)))).2.1 k) ?_
  refine own_go (T' := s₁) (g' := (mkF m 11 #[rv a, iv (0 : Int32), rv b, iv (0 : Int32), iv (1 : Int32), iv (0 : Int32), .unset] [(.ref a)])) (fun t k => XS.aloadN X0.here hx rfl (hb hby own_d_jdk_52_method_21_code_10) rfl rfl k) ?_
  refine own_go (T' := s₁) (g' := (mkF m 12 #[rv a, iv (0 : Int32), rv b, iv (0 : Int32), iv (1 : Int32), iv (0 : Int32), .unset] [(.int (0 : Int32)), (.ref a)])) (fun t k => XS.iloadN X0.here hx rfl (hb hby own_d_jdk_52_method_21_code_11) rfl k) ?_
  obtain ⟨cl1, Ar1, -, Sz1, Nn1, Ha1, -⟩ := id V_a
  have hin1 : ¬ ((0 : Int32) < 0 ∨ cl1.slots.size ≤ ((0 : Int32)).toNatClampNeg) := inb_of Sz1 ⟨by decide, by decide⟩
  have hat1 : cl1.slots[((0 : Int32)).toNatClampNeg]? = some (.int c0) := Ha1.at hin1 rfl
  refine own_go (T' := s₁) (g' := (mkF m 13 #[rv a, iv (0 : Int32), rv b, iv (0 : Int32), iv (1 : Int32), iv (0 : Int32), .unset] [(.int c0)])) (fun t k => X0.caload hx (j := (0 : Int32)) (v := (.int c0)) (by rw [e0]; exact Ar1.1) (State.isArrayOf_alike hZ.alike Ar1.2.1) Ar1.2.2 hin1 hat1 (g := (mkF m 12 #[rv a, iv (0 : Int32), rv b, iv (0 : Int32), iv (1 : Int32), iv (0 : Int32), .unset] [(.int (0 : Int32)), (.ref a)])) rfl rfl (hb hby own_d_jdk_52_method_21_code_12) _ k) ?_
  refine own_go (T' := s₁) (g' := (mkF m 15 #[rv a, iv (0 : Int32), rv b, iv (0 : Int32), iv (1 : Int32), iv (0 : Int32), iv c0] [])) (fun t k => XS.istore X0.here hx rfl (hb hby own_d_jdk_52_method_21_code_13) rfl (l' := #[rv a, iv (0 : Int32), rv b, iv (0 : Int32), iv (1 : Int32), iv (0 : Int32), iv c0]) rfl k) ?_
  refine own_go (T' := s₁) (g' := (mkF m 17 #[rv a, iv (0 : Int32), rv b, iv (0 : Int32), iv (1 : Int32), iv (0 : Int32), iv c0] [(.int c0)])) (fun t k => XS.iload X0.here hx rfl (hb hby own_d_jdk_52_method_21_code_15) rfl k) ?_
  refine own_go (T' := s₁) (g' := (mkF m 20 #[rv a, iv (0 : Int32), rv b, iv (0 : Int32), iv (1 : Int32), iv (0 : Int32), iv c0] [(.int (255 : Int32)), (.int c0)])) (fun t k => XS.sipush X0.here hx rfl (hb hby own_d_jdk_52_method_21_code_17) k) ?_
  refine own_go (T' := s₁) (g' := (mkF m 26 #[rv a, iv (0 : Int32), rv b, iv (0 : Int32), iv (1 : Int32), iv (0 : Int32), iv c0] [])) (fun t k => XS.icmpYes X0.here hx rfl (pc0 := 20) (pc' := 26) rfl (hb hby own_d_jdk_52_method_21_code_20) rfl (flt (own_c255 q0 : ¬ ((255 : Int32) < c0))).2.2.2 (by decide) (by decide) k) ?_
  refine own_go (T' := s₁) (g' := (mkF m 27 #[rv a, iv (0 : Int32), rv b, iv (0 : Int32), iv (1 : Int32), iv (0 : Int32), iv c0] [(.ref b)])) (fun t k => XS.aloadN X0.here hx rfl (hb hby own_d_jdk_52_method_21_code_26) rfl rfl k) ?_
  refine own_go (T' := s₁) (g' := (mkF m 28 #[rv a, iv (0 : Int32), rv b, iv (0 : Int32), iv (1 : Int32), iv (0 : Int32), iv c0] [(.int (0 : Int32)), (.ref b)])) (fun t k => XS.iloadN X0.here hx rfl (hb hby own_d_jdk_52_method_21_code_27) rfl k) ?_
  refine own_go (T' := s₁) (g' := (mkF m 30 #[rv a, iv (0 : Int32), rv b, iv (0 : Int32), iv (1 : Int32), iv (0 : Int32), iv c0] [(.int c0), (.int (0 : Int32)), (.ref b)])) (fun t k => XS.iload X0.here hx rfl (hb hby own_d_jdk_52_method_21_code_28) rfl k) ?_
  refine own_go (T' := s₁) (g' := (mkF m 31 #[rv a, iv (0 : Int32), rv b, iv (0 : Int32), iv (1 : Int32), iv (0 : Int32), iv c0] [(.int (c0.toInt8.toInt32)), (.int (0 : Int32)), (.ref b)])) (fun t k => XS.i2b X0.here hx rfl (hb hby own_d_jdk_52_method_21_code_30) rfl k) ?_
  obtain ⟨cl2, Ar2, q2, Sz2, Nn2, Ha2, Ga2⟩ := id V_b
  have hin2 : ¬ ((0 : Int32) < 0 ∨ cl2.slots.size ≤ ((0 : Int32)).toNatClampNeg) := inb_of Sz2 ⟨by decide, by decide⟩
  obtain ⟨T2, h2, X2, e2, W2, st2⟩ := stB X0 hx hZ e0 Ar2 (j := (0 : Int32)) hin2 (g := (mkF m 31 #[rv a, iv (0 : Int32), rv b, iv (0 : Int32), iv (1 : Int32), iv (0 : Int32), iv c0] [(.int (c0.toInt8.toInt32)), (.int (0 : Int32)), (.ref b)])) rfl rfl (hb hby own_d_jdk_52_method_21_code_31)
  rw [own_nb2 q0] at W2
  have hz2 : n0 ≤ h2.size := Nat.le_trans Z0 (Keep.of_wr W2).1
  have N2 := Fr.snoc X2 N0 g_b
  have K2 := (Keep.refl h0 [b]).wr W2 (Or.inl (List.mem_of_getElem? (i := 0) rfl))
  have c3 := V_a.other W2 n_ab
  have V2 : Arv Z h2 b kb .byte (1 : Int32) [(.int c0)] (.int (0 : Int32)) := Arv.set Ar2 q2 Sz2 Nn2 Ha2 Ga2 (own_fitb q0) W2 0 rfl (Nat.le_of_ble_eq_true rfl)
  refine own_go (T' := T2) (g' := (mkF m 32 #[rv a, iv (0 : Int32), rv b, iv (0 : Int32), iv (1 : Int32), iv (0 : Int32), iv c0] [])) (st2) ?_
  refine own_go (T' := T2) (g' := (mkF m 35 #[rv a, iv (1 : Int32), rv b, iv (0 : Int32), iv (1 : Int32), iv (0 : Int32), iv c0] [])) (fun t k => XS.iinc X2.here hx rfl (hb hby own_d_jdk_52_method_21_code_32) rfl (l' := #[rv a, iv (1 : Int32), rv b, iv (0 : Int32), iv (1 : Int32), iv (0 : Int32), iv c0]) rfl k) ?_
  refine own_go (T' := T2) (g' := (mkF m 38 #[rv a, iv (1 : Int32), rv b, iv (1 : Int32), iv (1 : Int32), iv (0 : Int32), iv c0] [])) (fun t k => XS.iinc X2.here hx rfl (hb hby own_d_jdk_52_method_21_code_35) rfl (l' := #[rv a, iv (1 : Int32), rv b, iv (1 : Int32), iv (1 : Int32), iv (0 : Int32), iv c0]) rfl k) ?_
  refine own_go (T' := T2) (g' := (mkF m 41 #[rv a, iv (1 : Int32), rv b, iv (1 : Int32), iv (1 : Int32), iv (1 : Int32), iv c0] [])) (fun t k => XS.iinc X2.here hx rfl (hb hby own_d_jdk_52_method_21_code_38) rfl (l' := #[rv a, iv (1 : Int32), rv b, iv (1 : Int32), iv (1 : Int32), iv (1 : Int32), iv c0]) rfl k) ?_
  refine own_go (T' := T2) (g' := (mkF m 3 #[rv a, iv (1 : Int32), rv b, iv (1 : Int32), iv (1 : Int32), iv (1 : Int32), iv c0] [])) (fun t k => XS.goto X2.here hx rfl (pc0 := 41) (pc' := 3) rfl (hb hby own_d_jdk_52_method_21_code_41) (by decide) (by decide) k) ?_
  refine own_go (T' := T2) (g' := (mkF m 5 #[rv a, iv (1 : Int32), rv b, iv (1 : Int32), iv (1 : Int32), iv (1 : Int32), iv c0] [(.int (1 : Int32))])) (fun t k => XS.iload X2.here hx rfl (hb hby own_d_jdk_52_method_21_code_3) rfl k) ?_
  refine own_go (T' := T2) (g' := (mkF m 7 #[rv a, iv (1 : Int32), rv b, iv (1 : Int32), iv (1 : Int32), iv (1 : Int32), iv c0] [(.int (1 : Int32)), (.int (1 : Int32))])) (fun t k => XS.iload X2.here hx rfl (hb hby own_d_jdk_52_method_21_code_5) rfl k) ?_
  refine own_go (T' := T2) (g' := (mkF m 44 #[rv a, iv (1 : Int32), rv b, iv (1 : Int32), iv (1 : Int32), iv (1 : Int32), iv c0] [])) (fun t k => XS.icmpYes X2.here hx rfl (pc0 := 7) (pc' := 44) rfl (hb hby own_d_jdk_52_method_21_code_7) rfl (flt (by decide : ¬ ((1 : Int32) < (1 : Int32)))).2.1 (by decide) (by decide) k) ?_
  refine own_go (T' := T2) (g' := (mkF m 46 #[rv a, iv (1 : Int32), rv b, iv (1 : Int32), iv (1 : Int32), iv (1 : Int32), iv c0] [(.int (1 : Int32))])) (fun t k => XS.iload X2.here hx rfl (hb hby own_d_jdk_52_method_21_code_44) rfl k) ?_
  exact own_ret X2 hlk hx Bd.returns rfl (Or.inl ⟨rfl, Or.inl rfl, _, rfl⟩) (hb hby own_d_jdk_52_method_21_code_46) (by rw [e2]; exact ⟨rfl, N2, K2, V2⟩) (by decide) (by decide)

theorem own_pd0 : parseMethodDescriptor "([CI[BII)I" = some ⟨[(.array .char), .int, (.array .byte), .int, .int], some .int⟩ := by decide +kernel
theorem own_d_jdk_52_method_16_code_0 : decode jdk_52_method_16_code 0 = .ok (.iload_n 2, 1) := by decide +kernel
theorem own_d_jdk_52_method_16_code_1 : decode jdk_52_method_16_code 1 = .ok (.newarray .byte, 2) := by decide +kernel
theorem own_d_jdk_52_method_16_code_3 : decode jdk_52_method_16_code 3 = .ok (.astore_n 3, 1) := by decide +kernel
theorem own_d_jdk_52_method_16_code_4 : decode jdk_52_method_16_code 4 = .ok (.aload_n 0, 1) := by decide +kernel
theorem own_d_jdk_52_method_16_code_5 : decode jdk_52_method_16_code 5 = .ok (.iload_n 1, 1) := by decide +kernel
theorem own_d_jdk_52_method_16_code_6 : decode jdk_52_method_16_code 6 = .ok (.aload_n 3, 1) := by decide +kernel
theorem own_d_jdk_52_method_16_code_7 : decode jdk_52_method_16_code 7 = .ok (.iconst 0, 1) := by decide +kernel
theorem own_d_jdk_52_method_16_code_8 : decode jdk_52_method_16_code 8 = .ok (.iload_n 2, 1) := by decide +kernel
theorem own_d_jdk_52_method_16_code_9 : decode jdk_52_method_16_code 9 = .ok (.invokestatic 115, 3) := by decide +kernel
theorem own_d_jdk_52_method_16_code_12 : decode jdk_52_method_16_code 12 = .ok (.istore 4, 2) := by decide +kernel
theorem own_d_jdk_52_method_16_code_14 : decode jdk_52_method_16_code 14 = .ok (.iload 4, 2) := by decide +kernel
theorem own_d_jdk_52_method_16_code_16 : decode jdk_52_method_16_code 16 = .ok (.iload_n 2, 1) := by decide +kernel
theorem own_d_jdk_52_method_16_code_17 : decode jdk_52_method_16_code 17 = .ok (.if_icmp .eq 40, 3) := by decide +kernel
theorem own_d_jdk_52_method_16_code_57 : decode jdk_52_method_16_code 57 = .ok (.aload_n 3, 1) := by decide +kernel
theorem own_d_jdk_52_method_16_code_58 : decode jdk_52_method_16_code 58 = .ok (.areturn, 1) := by decide +kernel
def Q_own_rc3_1 (Z : State) (c0 : Int32) (h0 : Heap) (n0 : Nat) (v : Option Value) (h : Heap) (L : List Loc) : Prop := ∃ (b : Addr) (kb : ClassId), v = some (.ref b) ∧ Fr n0 L ∧ h0.size ≤ b ∧ Keep h0 h [] ∧ Arv Z h b kb .byte (1 : Int32) [(.int c0)] (.int (0 : Int32)) ∧ Exa Z h b "[B"
set_option maxRecDepth 65536 in
set_option maxHeartbeats 40000000 in
theorem own_rc3_1 (l : Launch) (Z : State) (a0 : Array Value) (hw : ∀ d ∈ tables_1, d.before a0 Z = true) (ws : List Jvm.Cond) (a : Addr) (ka : ClassId) (c0 : Int32) (h0 : Heap) (n0 : Nat) (Z0 : n0 ≤ h0.size) (V_a : Arv Z h0 a ka .char (1 : Int32) [(.int c0)] (.int (0 : Int32))) (q0 : own_C c0) :
    MetFree l (⟨"java/lang/StringUTF16", "compress", "([CII)[B"⟩ : MethodName) (head1 (Jvm.Cond.code (⟨"java/lang/StringUTF16", "compress", "([CII)[B"⟩ : MethodName) jdk_52_method_16_code 6 (some (.array .byte)) :: ws) ({ frames := 1, cells := 1, slots := 1, locals := 18 } : Room)) (fun au Uu => au = #[(.ref a), (.int (0 : Int32)), (.int (1 : Int32))] ∧ Z.Warmed39 Uu.vm ∧ Uu.heap = h0) (fun _ _ _ _ _ => True) (fun _ Uu ou Uw => ∃ vu Lu, ou = .returned vu ∧ Q_own_rc3_1 Z c0 h0 n0 vu Uw.heap Lu ∧ FrameEnd Uu ou Uw Lu ({ frames := 1, cells := 1, slots := 1, locals := 18 } : Room).cells ({ frames := 1, cells := 1, slots := 1, locals := 18 } : Room).slots) := by
  refine MetFree.of_bodySF (plainFor_of_name (by first | (simp [plainName, overriddenIn]; done) | decide +kernel)) hisR ?_
  intro p e s m args below meth c s₁ Bd hml0 hP hK
  obtain ⟨rfl, hZ, hh⟩ := hP
  have hx := Bd.exec
  have hby := Bd.bytes
  have hlk := Bd.notSynchronized
  have hml : c.maxLocals = 6 := hml0
  have hown : s.vm.findClass "java/lang/StringUTF16" = some m.cls := findClass_of_methodNamed Bd.named
  have hnm := (name_of_methodNamed Bd.named Bd.method).1
  have X0 : Stand p l e ({ frames := 1, cells := 1, slots := 1, locals := 18 } : Room) s m #[(.ref a), (.int (0 : Int32)), (.int (1 : Int32))] below meth c s₁ [] 0 0 := Stand.of_body Bd
  have e0 : s₁.heap = h0 := by rw [← hh, Bd.state]; rfl
  have N0 := Fr.nil n0
  show own_Ends p e below s₁ (entryFrame m #[(.ref a), (.int (0 : Int32)), (.int (1 : Int32))] 6) (fun ou Uw => ∃ vu Lu, ou = .returned vu ∧ Q_own_rc3_1 Z c0 h0 n0 vu Uw.heap Lu ∧ FrameEnd s ou Uw Lu ({ frames := 1, cells := 1, slots := 1, locals := 18 } : Room).cells ({ frames := 1, cells := 1, slots := 1, locals := 18 } : Room).slots)
  refine own_start (g' := (mkF m 0 #[rv a, iv (0 : Int32), iv (1 : Int32), .unset, .unset, .unset] [])) (by first | (simp [entryFrame, mkF, argsToLocals, Value.category, iv, rv]; done) | rfl) ?_
  refine own_go (T' := s₁) (g' := (mkF m 1 #[rv a, iv (0 : Int32), iv (1 : Int32), .unset, .unset, .unset] [(.int (1 : Int32))])) (fun t k => XS.iloadN X0.here hx rfl (hb hby own_d_jdk_52_method_16_code_0) rfl k) ?_
  obtain ⟨T5, h5, k5, X5, e5, E5, A5, B5, st5⟩ := newPE X0 hx hZ (hw _ (List.mem_of_getElem? (i := 27) rfl)) e0 (g := (mkF m 1 #[rv a, iv (0 : Int32), iv (1 : Int32), .unset, .unset, .unset] [(.int (1 : Int32))])) rfl (hb hby own_d_jdk_52_method_16_code_1) rfl (by decide) (cap := 1) (by decide) (by decide) (by decide) (by decide) (ad := "[B") (by decide)
  obtain ⟨b5, g5⟩ : ∃ z, z = h0.size := ⟨_, rfl⟩
  rw [← g5] at A5 B5 st5
  have gn5 : n0 ≤ b5 := Nat.le_trans Z0 (Nat.le_of_eq g5.symm)
  have hz5 : n0 ≤ h5.size := Nat.le_trans Z0 E5.1
  have o5 : h0.size ≤ b5 := Nat.le_trans (Keep.refl h0 []).1 (Nat.le_of_eq g5.symm)
  have K5 := (Keep.refl h0 []).ext E5
  have c6 := V_a.ext E5
  have ne7 : a ≠ b5 := Nat.ne_of_lt (Nat.lt_of_lt_of_le V_a.lt (Nat.le_of_eq g5.symm))
  have V5 : Arv Z h5 b5 k5 .byte (1 : Int32) [(.int (0 : Int32))] (.int (0 : Int32)) := (Arv.new A5 (by decide)).pad (pad_rep [] (.int (0 : Int32)) 1)
  refine own_go (T' := T5) (g' := (mkF m 3 #[rv a, iv (0 : Int32), iv (1 : Int32), .unset, .unset, .unset] [(.ref b5)])) (st5) ?_
  refine own_go (T' := T5) (g' := (mkF m 4 #[rv a, iv (0 : Int32), iv (1 : Int32), rv b5, .unset, .unset] [])) (fun t k => XS.astoreN X5.here hx rfl (hb hby own_d_jdk_52_method_16_code_3) rfl rfl (l' := #[rv a, iv (0 : Int32), iv (1 : Int32), rv b5, .unset, .unset]) rfl k) ?_
  refine own_go (T' := T5) (g' := (mkF m 5 #[rv a, iv (0 : Int32), iv (1 : Int32), rv b5, .unset, .unset] [(.ref a)])) (fun t k => XS.aloadN X5.here hx rfl (hb hby own_d_jdk_52_method_16_code_4) rfl rfl k) ?_
  refine own_go (T' := T5) (g' := (mkF m 6 #[rv a, iv (0 : Int32), iv (1 : Int32), rv b5, .unset, .unset] [(.int (0 : Int32)), (.ref a)])) (fun t k => XS.iloadN X5.here hx rfl (hb hby own_d_jdk_52_method_16_code_5) rfl k) ?_
  refine own_go (T' := T5) (g' := (mkF m 7 #[rv a, iv (0 : Int32), iv (1 : Int32), rv b5, .unset, .unset] [(.ref b5), (.int (0 : Int32)), (.ref a)])) (fun t k => XS.aloadN X5.here hx rfl (hb hby own_d_jdk_52_method_16_code_6) rfl rfl k) ?_
  refine own_go (T' := T5) (g' := (mkF m 8 #[rv a, iv (0 : Int32), iv (1 : Int32), rv b5, .unset, .unset] [(.int (0 : Int32)), (.ref b5), (.int (0 : Int32)), (.ref a)])) (fun t k => XS.iconst X5.here hx rfl (hb hby own_d_jdk_52_method_16_code_7) k) ?_
  refine own_go (T' := T5) (g' := (mkF m 9 #[rv a, iv (0 : Int32), iv (1 : Int32), rv b5, .unset, .unset] [(.int (1 : Int32)), (.int (0 : Int32)), (.ref b5), (.int (0 : Int32)), (.ref a)])) (fun t k => XS.iloadN X5.here hx rfl (hb hby own_d_jdk_52_method_16_code_8) rfl k) ?_
  obtain ⟨_, _, ⟨T8, L8, k8, n8⟩, -, X8, ⟨Lc8, hQ8, l8, y8, z8⟩, st8⟩ := Jvm.LawKit.callS X5 hx (y := (⟨"java/lang/StringUTF16", "compress", "([CI[BII)I"⟩ : MethodName)) hown (mvT hZ (hw _ (List.mem_of_getElem? (i := 28) rfl))) (mvT hZ (hw _ (List.mem_of_getElem? (i := 29) rfl))) (mvT hZ (hw _ (List.mem_of_getElem? (i := 25) rfl))) (mvT hZ (hw _ (List.mem_of_getElem? (i := 30) rfl))) (by decide) (backOf (W := 0) (own_rc5_1 l Z a0 hw [] a b5 ka k5 c0 h5 n0 hz5 c6 V5 gn5 ne7 q0) hZ (hw _ (List.mem_of_getElem? (i := 30) rfl)) (hw _ (List.mem_of_getElem? (i := 25) rfl)) (by decide) (by decide)) (g := (mkF m 9 #[rv a, iv (0 : Int32), iv (1 : Int32), rv b5, .unset, .unset] [(.int (1 : Int32)), (.int (0 : Int32)), (.ref b5), (.int (0 : Int32)), (.ref a)])) rfl (by rw [hml]; rfl) (argsL := [(.ref a), (.int (0 : Int32)), (.ref b5), (.int (0 : Int32)), (.int (1 : Int32))]) (rest := []) (lenOf own_pd0 rfl) rfl (by show 2 * 0 + _ ≤ _; exact Nat.le_of_eq rfl) (hb hby own_d_jdk_52_method_16_code_9) (fun _ _ => ⟨rfl, e5, (by decide : 1 + 0 ≤ _), (by decide : 1 + 0 ≤ _)⟩)
  dsimp only [Pt.U, Pt.locs, Pt.cells, Pt.slots] at X8 l8 y8 z8 st8 hQ8
  subst l8 y8 z8
  obtain ⟨rfl, N8q, K_8, V_8⟩ := hQ8
  have N8 := Fr.app N0 N8q
  have c9 := c6.keep K_8 (ninS ne7 nin0)
  have c13 := B5.keep K_8
  have hz8 : n0 ≤ T8.heap.size := Nat.le_trans hz5 K_8.1
  have K8 := Keep.trans K5 K_8 (allS (P := fun x => x ∈ _ ∨ h0.size ≤ x) (Or.inr o5) all0)
  refine own_go (T' := T8) (g' := (mkF m 12 #[rv a, iv (0 : Int32), iv (1 : Int32), rv b5, .unset, .unset] [(.int (1 : Int32))])) (st8) ?_
  refine own_go (T' := T8) (g' := (mkF m 14 #[rv a, iv (0 : Int32), iv (1 : Int32), rv b5, iv (1 : Int32), .unset] [])) (fun t k => XS.istore X8.here hx rfl (hb hby own_d_jdk_52_method_16_code_12) rfl (l' := #[rv a, iv (0 : Int32), iv (1 : Int32), rv b5, iv (1 : Int32), .unset]) rfl k) ?_
  refine own_go (T' := T8) (g' := (mkF m 16 #[rv a, iv (0 : Int32), iv (1 : Int32), rv b5, iv (1 : Int32), .unset] [(.int (1 : Int32))])) (fun t k => XS.iload X8.here hx rfl (hb hby own_d_jdk_52_method_16_code_14) rfl k) ?_
  refine own_go (T' := T8) (g' := (mkF m 17 #[rv a, iv (0 : Int32), iv (1 : Int32), rv b5, iv (1 : Int32), .unset] [(.int (1 : Int32)), (.int (1 : Int32))])) (fun t k => XS.iloadN X8.here hx rfl (hb hby own_d_jdk_52_method_16_code_16) rfl k) ?_
  refine own_go (T' := T8) (g' := (mkF m 57 #[rv a, iv (0 : Int32), iv (1 : Int32), rv b5, iv (1 : Int32), .unset] [])) (fun t k => XS.icmpYes X8.here hx rfl (pc0 := 17) (pc' := 57) rfl (hb hby own_d_jdk_52_method_16_code_17) rfl (teq (by decide : ((1 : Int32) = (1 : Int32)))).1 (by decide) (by decide) k) ?_
  refine own_go (T' := T8) (g' := (mkF m 58 #[rv a, iv (0 : Int32), iv (1 : Int32), rv b5, iv (1 : Int32), .unset] [(.ref b5)])) (fun t k => XS.aloadN X8.here hx rfl (hb hby own_d_jdk_52_method_16_code_57) rfl rfl k) ?_
  exact own_ret X8 hlk hx Bd.returns rfl (Or.inr (Or.inr (Or.inr (Or.inr ⟨rfl, rfl, rfl⟩)))) (hb hby own_d_jdk_52_method_16_code_58) (by exact ⟨b5, _, rfl, N8, o5, K8, V_8, c13⟩) (by decide) (by decide)

theorem own_d_jdk_52_method_15_code_0 : decode jdk_52_method_15_code 0 = .ok (.iload_n 1, 1) := by decide +kernel
theorem own_d_jdk_52_method_15_code_1 : decode jdk_52_method_15_code 1 = .ok (.aload_n 0, 1) := by decide +kernel
theorem own_d_jdk_52_method_15_code_2 : decode jdk_52_method_15_code 2 = .ok (.arraylength, 1) := by decide +kernel
theorem own_d_jdk_52_method_15_code_3 : decode jdk_52_method_15_code 3 = .ok (.isub, 1) := by decide +kernel
theorem own_d_jdk_52_method_15_code_4 : decode jdk_52_method_15_code 4 = .ok (.bipush 31, 2) := by decide +kernel
theorem own_d_jdk_52_method_15_code_6 : decode jdk_52_method_15_code 6 = .ok (.iushr, 1) := by decide +kernel
theorem own_d_jdk_52_method_15_code_7 : decode jdk_52_method_15_code 7 = .ok (.i2b, 1) := by decide +kernel
theorem own_d_jdk_52_method_15_code_8 : decode jdk_52_method_15_code 8 = .ok (.ireturn, 1) := by decide +kernel
def Q_own_rco_1  (h0 : Heap) (n0 : Nat) (v : Option Value) (h : Heap) (L : List Loc) : Prop := v = some (.int 0) ∧ L = [] ∧ h = h0
set_option maxRecDepth 65536 in
set_option maxHeartbeats 40000000 in
theorem own_rco_1 (l : Launch) (Z : State) (a0 : Array Value) (hw : ∀ d ∈ tables_1, d.before a0 Z = true) (ws : List Jvm.Cond) (b : Addr) (kb : ClassId) (c0 : Int32) (h0 : Heap) (n0 : Nat) (Z0 : n0 ≤ h0.size) (V_b : Arv Z h0 b kb .byte (1 : Int32) [(.int c0)] (.int (0 : Int32))) :
    MetFree l (⟨"java/lang/StringUTF16", "coderFromArrayLen", "([BI)B"⟩ : MethodName) (head1 (Jvm.Cond.code (⟨"java/lang/StringUTF16", "coderFromArrayLen", "([BI)B"⟩ : MethodName) jdk_52_method_15_code 2 (some .byte) :: ws) ({ frames := 0, cells := 0, slots := 0, locals := 0 } : Room)) (fun au Uu => au = #[(.ref b), (.int (1 : Int32))] ∧ Z.Warmed39 Uu.vm ∧ Uu.heap = h0) (fun _ _ _ _ _ => True) (fun _ Uu ou Uw => ∃ vu Lu, ou = .returned vu ∧ Q_own_rco_1  h0 n0 vu Uw.heap Lu ∧ FrameEnd Uu ou Uw Lu ({ frames := 0, cells := 0, slots := 0, locals := 0 } : Room).cells ({ frames := 0, cells := 0, slots := 0, locals := 0 } : Room).slots) := by
  refine MetFree.of_bodySF (plainFor_of_name (by first | (simp [plainName, overriddenIn]; done) | decide +kernel)) hisR ?_
  intro p e s m args below meth c s₁ Bd hml0 hP hK
  obtain ⟨rfl, hZ, hh⟩ := hP
  have hx := Bd.exec
  have hby := Bd.bytes
  have hlk := Bd.notSynchronized
  have hml : c.maxLocals = 2 := hml0
  have hown : s.vm.findClass "java/lang/StringUTF16" = some m.cls := findClass_of_methodNamed Bd.named
  have hnm := (name_of_methodNamed Bd.named Bd.method).1
  have X0 : Stand p l e ({ frames := 0, cells := 0, slots := 0, locals := 0 } : Room) s m #[(.ref b), (.int (1 : Int32))] below meth c s₁ [] 0 0 := Stand.of_body Bd
  have e0 : s₁.heap = h0 := by rw [← hh, Bd.state]; rfl
  have N0 := Fr.nil n0
  show own_Ends p e below s₁ (entryFrame m #[(.ref b), (.int (1 : Int32))] 2) (fun ou Uw => ∃ vu Lu, ou = .returned vu ∧ Q_own_rco_1  h0 n0 vu Uw.heap Lu ∧ FrameEnd s ou Uw Lu ({ frames := 0, cells := 0, slots := 0, locals := 0 } : Room).cells ({ frames := 0, cells := 0, slots := 0, locals := 0 } : Room).slots)
  refine own_start (g' := (mkF m 0 #[rv b, iv (1 : Int32)] [])) (by first | (simp [entryFrame, mkF, argsToLocals, Value.category, iv, rv]; done) | rfl) ?_
  refine own_go (T' := s₁) (g' := (mkF m 1 #[rv b, iv (1 : Int32)] [(.int (1 : Int32))])) (fun t k => XS.iloadN X0.here hx rfl (hb hby own_d_jdk_52_method_15_code_0) rfl k) ?_
  refine own_go (T' := s₁) (g' := (mkF m 2 #[rv b, iv (1 : Int32)] [(.ref b), (.int (1 : Int32))])) (fun t k => XS.aloadN X0.here hx rfl (hb hby own_d_jdk_52_method_15_code_1) rfl rfl k) ?_
  obtain ⟨cl15, Ar15, -, Sz15, Nn15, -, -⟩ := id V_b
  refine own_go (T' := s₁) (g' := (mkF m 3 #[rv b, iv (1 : Int32)] [(.int (1 : Int32)), (.int (1 : Int32))])) (fun t k => X0.arraylength hx (by rw [e0]; exact Ar15.1) (State.isArrayOf_alike hZ.alike Ar15.2.1) (g := (mkF m 2 #[rv b, iv (1 : Int32)] [(.ref b), (.int (1 : Int32))])) rfl rfl (hb hby own_d_jdk_52_method_15_code_2) _ (by rw [len_of Sz15 Nn15]; exact k)) ?_
  refine own_go (T' := s₁) (g' := (mkF m 4 #[rv b, iv (1 : Int32)] [(.int ((1 : Int32) - (1 : Int32)))])) (fun t k => XS.isub X0.here hx rfl (hb hby own_d_jdk_52_method_15_code_3) rfl k) ?_
  refine own_go (T' := s₁) (g' := (mkF m 6 #[rv b, iv (1 : Int32)] [(.int (31 : Int32)), (.int ((1 : Int32) - (1 : Int32)))])) (fun t k => XS.bipush X0.here hx rfl (hb hby own_d_jdk_52_method_15_code_4) k) ?_
  refine own_go (T' := s₁) (g' := (mkF m 7 #[rv b, iv (1 : Int32)] [(.int ((((1 : Int32) - (1 : Int32)).toUInt32 >>> ((31 : Int32) &&& 31).toUInt32).toInt32))])) (fun t k => XS.iushr X0.here hx rfl (hb hby own_d_jdk_52_method_15_code_6) rfl k) ?_
  refine own_go (T' := s₁) (g' := (mkF m 8 #[rv b, iv (1 : Int32)] [(.int (((((1 : Int32) - (1 : Int32)).toUInt32 >>> ((31 : Int32) &&& 31).toUInt32).toInt32).toInt8.toInt32))])) (fun t k => XS.i2b X0.here hx rfl (hb hby own_d_jdk_52_method_15_code_7) rfl k) ?_
  exact own_ret X0 hlk hx Bd.returns (by decide) (Or.inl ⟨rfl, Or.inr (Or.inr (Or.inl rfl)), _, rfl⟩) (hb hby own_d_jdk_52_method_15_code_8) ⟨congrArg (fun z => some (Value.int z)) (by decide), rfl, e0⟩ (by decide) (by decide)

theorem own_pd2 : parseMethodDescriptor "([BI)B" = some ⟨[(.array .byte), .int], some .byte⟩ := by decide +kernel
theorem own_pd1 : parseMethodDescriptor "([CII)[B" = some ⟨[(.array .char), .int, .int], some (.array .byte)⟩ := by decide +kernel
theorem own_d_jdk_42_method_149_code_0 : decode jdk_42_method_149_code 0 = .ok (.aload_n 0, 1) := by decide +kernel
theorem own_d_jdk_42_method_149_code_1 : decode jdk_42_method_149_code 1 = .ok (.invokespecial 1, 3) := by decide +kernel
theorem own_d_jdk_42_method_149_code_4 : decode jdk_42_method_149_code 4 = .ok (.iload_n 3, 1) := by decide +kernel
theorem own_d_jdk_42_method_149_code_5 : decode jdk_42_method_149_code 5 = .ok (.ifCond .ne 22, 3) := by decide +kernel
theorem own_d_jdk_42_method_149_code_27 : decode jdk_42_method_149_code 27 = .ok (.getstatic 38, 3) := by decide +kernel
theorem own_d_jdk_42_method_149_code_30 : decode jdk_42_method_149_code 30 = .ok (.ifCond .eq 28, 3) := by decide +kernel
theorem own_d_jdk_42_method_149_code_33 : decode jdk_42_method_149_code 33 = .ok (.aload_n 1, 1) := by decide +kernel
theorem own_d_jdk_42_method_149_code_34 : decode jdk_42_method_149_code 34 = .ok (.iload_n 2, 1) := by decide +kernel
theorem own_d_jdk_42_method_149_code_35 : decode jdk_42_method_149_code 35 = .ok (.iload_n 3, 1) := by decide +kernel
theorem own_d_jdk_42_method_149_code_36 : decode jdk_42_method_149_code 36 = .ok (.invokestatic 177, 3) := by decide +kernel
theorem own_d_jdk_42_method_149_code_39 : decode jdk_42_method_149_code 39 = .ok (.astore 5, 2) := by decide +kernel
theorem own_d_jdk_42_method_149_code_41 : decode jdk_42_method_149_code 41 = .ok (.aload_n 0, 1) := by decide +kernel
theorem own_d_jdk_42_method_149_code_42 : decode jdk_42_method_149_code 42 = .ok (.aload 5, 2) := by decide +kernel
theorem own_d_jdk_42_method_149_code_44 : decode jdk_42_method_149_code 44 = .ok (.iload_n 3, 1) := by decide +kernel
theorem own_d_jdk_42_method_149_code_45 : decode jdk_42_method_149_code 45 = .ok (.invokestatic 47, 3) := by decide +kernel
theorem own_d_jdk_42_method_149_code_48 : decode jdk_42_method_149_code 48 = .ok (.putfield 15, 3) := by decide +kernel
theorem own_d_jdk_42_method_149_code_51 : decode jdk_42_method_149_code 51 = .ok (.aload_n 0, 1) := by decide +kernel
theorem own_d_jdk_42_method_149_code_52 : decode jdk_42_method_149_code 52 = .ok (.aload 5, 2) := by decide +kernel
theorem own_d_jdk_42_method_149_code_54 : decode jdk_42_method_149_code 54 = .ok (.putfield 9, 3) := by decide +kernel
theorem own_d_jdk_42_method_149_code_57 : decode jdk_42_method_149_code 57 = .ok (.return_, 1) := by decide +kernel
def Q_own_rsv_1 (Z : State) (s : Addr) (c0 : Int32) (h0 : Heap) (n0 : Nat) (v : Option Value) (h : Heap) (L : List Loc) : Prop := ∃ (b : Addr) (kb : ClassId), v = none ∧ Fr n0 L ∧ h0.size ≤ b ∧ Keep h0 h [s] ∧ Exa Z h s "java/lang/String" ∧ Fld Z h s "java/lang/String" "coder" "B" (.int 0) ∧ Fld Z h s "java/lang/String" "value" "[B" (.ref b) ∧ Arv Z h b kb .byte (1 : Int32) [(.int c0)] (.int (0 : Int32)) ∧ Exa Z h b "[B"
set_option maxRecDepth 65536 in
set_option maxHeartbeats 40000000 in
theorem own_rsv_1 (l : Launch) (Z : State) (a0 : Array Value) (hw : ∀ d ∈ tables_1, d.before a0 Z = true) (ws : List Jvm.Cond) (s_ a : Addr) (ka : ClassId) (cp : Int32) (c0 : Int32) (h0 : Heap) (n0 : Nat) (Z0 : n0 ≤ h0.size) (E_s : Exa Z h0 s_ "java/lang/String") (g_s : n0 ≤ s_) (F_c : Fld Z h0 s_ "java/lang/String" "coder" "B" (.int 0)) (F_v : Fld Z h0 s_ "java/lang/String" "value" "[B" .null) (V_a : Arv Z h0 a ka .char (1 : Int32) [(.int c0)] (.int (0 : Int32))) (n_as : a ≠ s_) (S_cp : Sta Z h0 "java/lang/String" "COMPACT_STRINGS" "Z" (.int cp)) (hcp : ¬ cp = 0) (q0 : own_C c0) :
    MetFree l (⟨"java/lang/String", "<init>", "([CIILjava/lang/Void;)V"⟩ : MethodName) (head1 (Jvm.Cond.code (⟨"java/lang/String", "<init>", "([CIILjava/lang/Void;)V"⟩ : MethodName) jdk_42_method_149_code 6 none :: ws) ({ frames := 2, cells := 1, slots := 1, locals := 35 } : Room)) (fun au Uu => au = #[(.ref s_), (.ref a), (.int (0 : Int32)), (.int (1 : Int32)), .null] ∧ Z.Warmed39 Uu.vm ∧ Uu.heap = h0) (fun _ _ _ _ _ => True) (fun _ Uu ou Uw => ∃ vu Lu, ou = .returned vu ∧ Q_own_rsv_1 Z s_ c0 h0 n0 vu Uw.heap Lu ∧ FrameEnd Uu ou Uw Lu ({ frames := 2, cells := 1, slots := 1, locals := 35 } : Room).cells ({ frames := 2, cells := 1, slots := 1, locals := 35 } : Room).slots) := by
  refine MetFree.of_bodySF (plainFor_of_name (by first | (simp [plainName, overriddenIn]; done) | decide +kernel)) hisR ?_
  intro p e s m args below meth c s₁ Bd hml0 hP hK
  obtain ⟨rfl, hZ, hh⟩ := hP
  have hx := Bd.exec
  have hby := Bd.bytes
  have hlk := Bd.notSynchronized
  have hml : c.maxLocals = 6 := hml0
  have hown : s.vm.findClass "java/lang/String" = some m.cls := findClass_of_methodNamed Bd.named
  have hnm := (name_of_methodNamed Bd.named Bd.method).1
  have X0 : Stand p l e ({ frames := 2, cells := 1, slots := 1, locals := 35 } : Room) s m #[(.ref s_), (.ref a), (.int (0 : Int32)), (.int (1 : Int32)), .null] below meth c s₁ [] 0 0 := Stand.of_body Bd
  have e0 : s₁.heap = h0 := by rw [← hh, Bd.state]; rfl
  have N0 := Fr.nil n0
  show own_Ends p e below s₁ (entryFrame m #[(.ref s_), (.ref a), (.int (0 : Int32)), (.int (1 : Int32)), .null] 6) (fun ou Uw => ∃ vu Lu, ou = .returned vu ∧ Q_own_rsv_1 Z s_ c0 h0 n0 vu Uw.heap Lu ∧ FrameEnd s ou Uw Lu ({ frames := 2, cells := 1, slots := 1, locals := 35 } : Room).cells ({ frames := 2, cells := 1, slots := 1, locals := 35 } : Room).slots)
  refine own_start (g' := (mkF m 0 #[rv s_, rv a, iv (0 : Int32), iv (1 : Int32), .val .null, .unset] [])) (by first | (simp [entryFrame, mkF, argsToLocals, Value.category, iv, rv]; done) | rfl) ?_
  refine own_go (T' := s₁) (g' := (mkF m 1 #[rv s_, rv a, iv (0 : Int32), iv (1 : Int32), .val .null, .unset] [(.ref s_)])) (fun t k => XS.aloadN X0.here hx rfl (hb hby own_d_jdk_42_method_149_code_0) rfl rfl k) ?_
  obtain ⟨T16, X16, e16, st16⟩ := initO X0 hx hZ hown (hw _ (List.mem_of_getElem? (i := 19) rfl)) (hw _ (List.mem_of_getElem? (i := 20) rfl)) (hw _ (List.mem_of_getElem? (i := 21) rfl)) e0 (g := (mkF m 1 #[rv s_, rv a, iv (0 : Int32), iv (1 : Int32), .val .null, .unset] [(.ref s_)])) rfl (by rw [hml]; rfl) rfl (hb hby own_d_jdk_42_method_149_code_1) (by decide) (W := 0) (by show 2 * 0 + _ ≤ _; exact Nat.le_of_eq rfl) (by decide)
  refine own_go (T' := T16) (g' := (mkF m 4 #[rv s_, rv a, iv (0 : Int32), iv (1 : Int32), .val .null, .unset] [])) (st16) ?_
  refine own_go (T' := T16) (g' := (mkF m 5 #[rv s_, rv a, iv (0 : Int32), iv (1 : Int32), .val .null, .unset] [(.int (1 : Int32))])) (fun t k => XS.iloadN X16.here hx rfl (hb hby own_d_jdk_42_method_149_code_4) rfl k) ?_
  refine own_go (T' := T16) (g' := (mkF m 27 #[rv s_, rv a, iv (0 : Int32), iv (1 : Int32), .val .null, .unset] [])) (fun t k => XS.ifYes X16.here hx rfl (pc0 := 5) (pc' := 27) rfl (hb hby own_d_jdk_42_method_149_code_5) rfl ((if0 _ _).trans (feq (by decide : ¬ ((1 : Int32) = (0 : Int32)))).2) (by decide) (by decide) k) ?_
  obtain ⟨T17, X17, e17, st17⟩ := getS2 X16 hx hZ hown (host := "") (Or.inl (hw _ (List.mem_of_getElem? (i := 22) rfl))) Via.refl e16 S_cp (g := (mkF m 27 #[rv s_, rv a, iv (0 : Int32), iv (1 : Int32), .val .null, .unset] [])) rfl (hb hby own_d_jdk_42_method_149_code_27)
  refine own_go (T' := T17) (g' := (mkF m 30 #[rv s_, rv a, iv (0 : Int32), iv (1 : Int32), .val .null, .unset] [(.int cp)])) (st17) ?_
  refine own_go (T' := T17) (g' := (mkF m 33 #[rv s_, rv a, iv (0 : Int32), iv (1 : Int32), .val .null, .unset] [])) (fun t k => XS.ifNo X17.here hx rfl (hb hby own_d_jdk_42_method_149_code_30) rfl ((if0 _ _).trans (feq (hcp : ¬ (cp = (0 : Int32)))).1) k) ?_
  refine own_go (T' := T17) (g' := (mkF m 34 #[rv s_, rv a, iv (0 : Int32), iv (1 : Int32), .val .null, .unset] [(.ref a)])) (fun t k => XS.aloadN X17.here hx rfl (hb hby own_d_jdk_42_method_149_code_33) rfl rfl k) ?_
  refine own_go (T' := T17) (g' := (mkF m 35 #[rv s_, rv a, iv (0 : Int32), iv (1 : Int32), .val .null, .unset] [(.int (0 : Int32)), (.ref a)])) (fun t k => XS.iloadN X17.here hx rfl (hb hby own_d_jdk_42_method_149_code_34) rfl k) ?_
  refine own_go (T' := T17) (g' := (mkF m 36 #[rv s_, rv a, iv (0 : Int32), iv (1 : Int32), .val .null, .unset] [(.int (1 : Int32)), (.int (0 : Int32)), (.ref a)])) (fun t k => XS.iloadN X17.here hx rfl (hb hby own_d_jdk_42_method_149_code_35) rfl k) ?_
  obtain ⟨_, _, ⟨T18, L18, k18, n18⟩, -, X18, ⟨Lc18, hQ18, l18, y18, z18⟩, st18⟩ := Jvm.LawKit.callS X17 hx (y := (⟨"java/lang/StringUTF16", "compress", "([CII)[B"⟩ : MethodName)) hown (mvT hZ (hw _ (List.mem_of_getElem? (i := 23) rfl))) (mvT hZ (hw _ (List.mem_of_getElem? (i := 24) rfl))) (mvT hZ (hw _ (List.mem_of_getElem? (i := 25) rfl))) (mvT hZ (hw _ (List.mem_of_getElem? (i := 26) rfl))) (by decide) (backOf (W := 0) (own_rc3_1 l Z a0 hw [] a ka c0 h0 n0 Z0 V_a q0) hZ (hw _ (List.mem_of_getElem? (i := 26) rfl)) (hw _ (List.mem_of_getElem? (i := 25) rfl)) (by decide) (by decide)) (g := (mkF m 36 #[rv s_, rv a, iv (0 : Int32), iv (1 : Int32), .val .null, .unset] [(.int (1 : Int32)), (.int (0 : Int32)), (.ref a)])) rfl (by rw [hml]; rfl) (argsL := [(.ref a), (.int (0 : Int32)), (.int (1 : Int32))]) (rest := []) (lenOf own_pd1 rfl) rfl (by show 2 * 0 + _ ≤ _; exact Nat.le_of_eq rfl) (hb hby own_d_jdk_42_method_149_code_36) (fun _ _ => ⟨rfl, e17, (by decide : 0 + 1 ≤ _), (by decide : 0 + 1 ≤ _)⟩)
  dsimp only [Pt.U, Pt.locs, Pt.cells, Pt.slots] at X18 l18 y18 z18 st18 hQ18
  subst l18 y18 z18
  obtain ⟨b_18, k_18, rfl, N18q, ob_18, K_18, V_18, B_18⟩ := hQ18
  have N18 := Fr.app N0 N18q
  have nq19 : s_ ≠ b_18 := Nat.ne_of_lt (Nat.lt_of_lt_of_le E_s.lt ob_18)
  have nq20 : a ≠ b_18 := Nat.ne_of_lt (Nat.lt_of_lt_of_le V_a.lt ob_18)
  have oo_18 : h0.size ≤ b_18 := Nat.le_trans (Keep.refl h0 [s_]).1 ob_18
  have c21 := E_s.keep K_18
  have c23 := F_c.keep K_18 nin0
  have c24 := F_v.keep K_18 nin0
  have c26 := V_a.keep K_18 nin0
  have c27 := own_sta_keep S_cp K_18 own_ns0
  have hz18 : n0 ≤ T18.heap.size := Nat.le_trans Z0 K_18.1
  have K18 := Keep.trans (Keep.refl h0 [s_]) K_18 all0
  refine own_go (T' := T18) (g' := (mkF m 39 #[rv s_, rv a, iv (0 : Int32), iv (1 : Int32), .val .null, .unset] [(.ref b_18)])) (st18) ?_
  refine own_go (T' := T18) (g' := (mkF m 41 #[rv s_, rv a, iv (0 : Int32), iv (1 : Int32), .val .null, rv b_18] [])) (fun t k => XS.astore X18.here hx rfl (hb hby own_d_jdk_42_method_149_code_39) rfl rfl (l' := #[rv s_, rv a, iv (0 : Int32), iv (1 : Int32), .val .null, rv b_18]) rfl k) ?_
  refine own_go (T' := T18) (g' := (mkF m 42 #[rv s_, rv a, iv (0 : Int32), iv (1 : Int32), .val .null, rv b_18] [(.ref s_)])) (fun t k => XS.aloadN X18.here hx rfl (hb hby own_d_jdk_42_method_149_code_41) rfl rfl k) ?_
  refine own_go (T' := T18) (g' := (mkF m 44 #[rv s_, rv a, iv (0 : Int32), iv (1 : Int32), .val .null, rv b_18] [(.ref b_18), (.ref s_)])) (fun t k => XS.aload X18.here hx rfl (hb hby own_d_jdk_42_method_149_code_42) rfl rfl k) ?_
  refine own_go (T' := T18) (g' := (mkF m 45 #[rv s_, rv a, iv (0 : Int32), iv (1 : Int32), .val .null, rv b_18] [(.int (1 : Int32)), (.ref b_18), (.ref s_)])) (fun t k => XS.iloadN X18.here hx rfl (hb hby own_d_jdk_42_method_149_code_44) rfl k) ?_
  obtain ⟨_, _, ⟨T28, L28, k28, n28⟩, -, X28, ⟨Lc28, hQ28, l28, y28, z28⟩, st28⟩ := Jvm.LawKit.callS X18 hx (y := (⟨"java/lang/StringUTF16", "coderFromArrayLen", "([BI)B"⟩ : MethodName)) hown (mvT hZ (hw _ (List.mem_of_getElem? (i := 31) rfl))) (mvT hZ (hw _ (List.mem_of_getElem? (i := 32) rfl))) (mvT hZ (hw _ (List.mem_of_getElem? (i := 25) rfl))) (mvT hZ (hw _ (List.mem_of_getElem? (i := 33) rfl))) (by decide) (backOf (W := 1) (own_rco_1 l Z a0 hw [] b_18 k_18 c0 T18.heap n0 hz18 V_18) hZ (hw _ (List.mem_of_getElem? (i := 33) rfl)) (hw _ (List.mem_of_getElem? (i := 25) rfl)) (by decide) (by decide)) (g := (mkF m 45 #[rv s_, rv a, iv (0 : Int32), iv (1 : Int32), .val .null, rv b_18] [(.int (1 : Int32)), (.ref b_18), (.ref s_)])) rfl (by rw [hml]; rfl) (argsL := [(.ref b_18), (.int (1 : Int32))]) (rest := [(.ref s_)]) (lenOf own_pd2 rfl) rfl (by show 2 * 0 + _ ≤ _; exact Nat.le_of_eq rfl) (hb hby own_d_jdk_42_method_149_code_45) (fun _ _ => ⟨rfl, rfl, (by decide : 1 + 0 ≤ _), (by decide : 1 + 0 ≤ _)⟩)
  dsimp only [Pt.U, Pt.locs, Pt.cells, Pt.slots] at X28 l28 y28 z28 st28 hQ28
  subst l28 y28 z28
  obtain ⟨rfl, rfl, e28⟩ := hQ28
  have E28q : T28.heap = T18.heap := e28
  have N28 := Fr.app N18 (Fr.nil n0)
  refine own_go (T' := T28) (g' := (mkF m 48 #[rv s_, rv a, iv (0 : Int32), iv (1 : Int32), .val .null, rv b_18] [(.int (0 : Int32)), (.ref s_)])) (st28) ?_
  obtain ⟨T29, h29, X29, e29, W29, st29⟩ := putF X28 hx hZ hown (host := "") (Or.inl (hw _ (List.mem_of_getElem? (i := 34) rfl))) Via.refl E28q c23 c21 (Or.inr ⟨(hw _ (List.mem_of_getElem? (i := 35) rfl)), rfl, hnm⟩) (hw _ (List.mem_of_getElem? (i := 9) rfl)) (ty := .byte) (by decide) rfl rfl (g := (mkF m 48 #[rv s_, rv a, iv (0 : Int32), iv (1 : Int32), .val .null, rv b_18] [(.int (0 : Int32)), (.ref s_)])) rfl rfl (hb hby own_d_jdk_42_method_149_code_48)
  have hz29 : n0 ≤ h29.size := Nat.le_trans hz18 (Keep.of_wr W29).1
  have N29 := Fr.snoc X29 N28 g_s
  have K29 := K18.wr W29 (Or.inl (List.mem_of_getElem? (i := 0) rfl))
  have c30 := c21.wr W29
  have c31 := c23.same W29
  have c32 := c24.other W29 (Or.inr (slot_ne (Or.inr (hw _ (List.mem_of_getElem? (i := 37) rfl))) (Or.inr (hw _ (List.mem_of_getElem? (i := 35) rfl))) (by decide) (t := (.array .byte)) (t' := .byte) (by decide) (by decide)))
  have c33 := c26.other W29 n_as
  have c34 := c27.wr W29
  have c35 := V_18.other W29 (Ne.symm nq19)
  have c36 := B_18.wr W29
  refine own_go (T' := T29) (g' := (mkF m 51 #[rv s_, rv a, iv (0 : Int32), iv (1 : Int32), .val .null, rv b_18] [])) (st29) ?_
  refine own_go (T' := T29) (g' := (mkF m 52 #[rv s_, rv a, iv (0 : Int32), iv (1 : Int32), .val .null, rv b_18] [(.ref s_)])) (fun t k => XS.aloadN X29.here hx rfl (hb hby own_d_jdk_42_method_149_code_51) rfl rfl k) ?_
  refine own_go (T' := T29) (g' := (mkF m 54 #[rv s_, rv a, iv (0 : Int32), iv (1 : Int32), .val .null, rv b_18] [(.ref b_18), (.ref s_)])) (fun t k => XS.aload X29.here hx rfl (hb hby own_d_jdk_42_method_149_code_52) rfl rfl k) ?_
  obtain ⟨T37, h37, X37, e37, W37, st37⟩ := putF X29 hx hZ hown (host := "") (Or.inl (hw _ (List.mem_of_getElem? (i := 36) rfl))) Via.refl e29 c32 c30 (Or.inr ⟨(hw _ (List.mem_of_getElem? (i := 37) rfl)), rfl, hnm⟩) (hw _ (List.mem_of_getElem? (i := 9) rfl)) (ty := (.array .byte)) (by decide) rfl rfl (g := (mkF m 54 #[rv s_, rv a, iv (0 : Int32), iv (1 : Int32), .val .null, rv b_18] [(.ref b_18), (.ref s_)])) rfl rfl (hb hby own_d_jdk_42_method_149_code_54)
  have hz37 : n0 ≤ h37.size := Nat.le_trans hz29 (Keep.of_wr W37).1
  have N37 := Fr.snoc X37 N29 g_s
  have K37 := K29.wr W37 (Or.inl (List.mem_of_getElem? (i := 0) rfl))
  have c38 := c30.wr W37
  have c39 := c31.other W37 (Or.inr (slot_ne (Or.inr (hw _ (List.mem_of_getElem? (i := 35) rfl))) (Or.inr (hw _ (List.mem_of_getElem? (i := 37) rfl))) (by decide) (t := .byte) (t' := (.array .byte)) (by decide) (by decide)))
  have c40 := c32.same W37
  have c41 := c33.other W37 n_as
  have c42 := c34.wr W37
  have c43 := c35.other W37 (Ne.symm nq19)
  have c44 := c36.wr W37
  refine own_go (T' := T37) (g' := (mkF m 57 #[rv s_, rv a, iv (0 : Int32), iv (1 : Int32), .val .null, rv b_18] [])) (st37) ?_
  exact own_ret0 X37 hlk hx Bd.returns (hb hby own_d_jdk_42_method_149_code_57) (by rw [e37]; exact ⟨b_18, _, rfl, N37, oo_18, K37, c38, c39, c40, c43, c44⟩) (by decide) (by decide)

theorem own_pd3 : parseMethodDescriptor "([CIILjava/lang/Void;)V" = some ⟨[(.array .char), .int, .int, (.object "java/lang/Void")], none⟩ := by decide +kernel
theorem own_d_jdk_42_method_3_code_0 : decode jdk_42_method_3_code 0 = .ok (.aload_n 0, 1) := by decide +kernel
theorem own_d_jdk_42_method_3_code_1 : decode jdk_42_method_3_code 1 = .ok (.aload_n 1, 1) := by decide +kernel
theorem own_d_jdk_42_method_3_code_2 : decode jdk_42_method_3_code 2 = .ok (.iconst 0, 1) := by decide +kernel
theorem own_d_jdk_42_method_3_code_3 : decode jdk_42_method_3_code 3 = .ok (.aload_n 1, 1) := by decide +kernel
theorem own_d_jdk_42_method_3_code_4 : decode jdk_42_method_3_code 4 = .ok (.arraylength, 1) := by decide +kernel
theorem own_d_jdk_42_method_3_code_5 : decode jdk_42_method_3_code 5 = .ok (.aconst_null, 1) := by decide +kernel
theorem own_d_jdk_42_method_3_code_6 : decode jdk_42_method_3_code 6 = .ok (.invokespecial 27, 3) := by decide +kernel
theorem own_d_jdk_42_method_3_code_9 : decode jdk_42_method_3_code 9 = .ok (.return_, 1) := by decide +kernel
def Q_own_rsi_1 (Z : State) (s : Addr) (c0 : Int32) (h0 : Heap) (n0 : Nat) (v : Option Value) (h : Heap) (L : List Loc) : Prop := ∃ (b : Addr) (kb : ClassId), v = none ∧ Fr n0 L ∧ h0.size ≤ b ∧ Keep h0 h [s] ∧ Exa Z h s "java/lang/String" ∧ Fld Z h s "java/lang/String" "coder" "B" (.int 0) ∧ Fld Z h s "java/lang/String" "value" "[B" (.ref b) ∧ Arv Z h b kb .byte (1 : Int32) [(.int c0)] (.int (0 : Int32)) ∧ Exa Z h b "[B"
set_option maxRecDepth 65536 in
set_option maxHeartbeats 40000000 in
theorem own_rsi_1 (l : Launch) (Z : State) (a0 : Array Value) (hw : ∀ d ∈ tables_1, d.before a0 Z = true) (ws : List Jvm.Cond) (s_ a : Addr) (ka : ClassId) (cp : Int32) (c0 : Int32) (h0 : Heap) (n0 : Nat) (Z0 : n0 ≤ h0.size) (E_s : Exa Z h0 s_ "java/lang/String") (g_s : n0 ≤ s_) (F_c : Fld Z h0 s_ "java/lang/String" "coder" "B" (.int 0)) (F_v : Fld Z h0 s_ "java/lang/String" "value" "[B" .null) (V_a : Arv Z h0 a ka .char (1 : Int32) [(.int c0)] (.int (0 : Int32))) (n_as : a ≠ s_) (S_cp : Sta Z h0 "java/lang/String" "COMPACT_STRINGS" "Z" (.int cp)) (hcp : ¬ cp = 0) (q0 : own_C c0) :
    MetFree l (⟨"java/lang/String", "<init>", "([C)V"⟩ : MethodName) (head1 (Jvm.Cond.code (⟨"java/lang/String", "<init>", "([C)V"⟩ : MethodName) jdk_42_method_3_code 2 none :: ws) ({ frames := 3, cells := 1, slots := 1, locals := 52 } : Room)) (fun au Uu => au = #[(.ref s_), (.ref a)] ∧ Z.Warmed39 Uu.vm ∧ Uu.heap = h0) (fun _ _ _ _ _ => True) (fun _ Uu ou Uw => ∃ vu Lu, ou = .returned vu ∧ Q_own_rsi_1 Z s_ c0 h0 n0 vu Uw.heap Lu ∧ FrameEnd Uu ou Uw Lu ({ frames := 3, cells := 1, slots := 1, locals := 52 } : Room).cells ({ frames := 3, cells := 1, slots := 1, locals := 52 } : Room).slots) := by
  refine MetFree.of_bodySF (plainFor_of_name (by first | (simp [plainName, overriddenIn]; done) | decide +kernel)) hisR ?_
  intro p e s m args below meth c s₁ Bd hml0 hP hK
  obtain ⟨rfl, hZ, hh⟩ := hP
  have hx := Bd.exec
  have hby := Bd.bytes
  have hlk := Bd.notSynchronized
  have hml : c.maxLocals = 2 := hml0
  have hown : s.vm.findClass "java/lang/String" = some m.cls := findClass_of_methodNamed Bd.named
  have hnm := (name_of_methodNamed Bd.named Bd.method).1
  have X0 : Stand p l e ({ frames := 3, cells := 1, slots := 1, locals := 52 } : Room) s m #[(.ref s_), (.ref a)] below meth c s₁ [] 0 0 := Stand.of_body Bd
  have e0 : s₁.heap = h0 := by rw [← hh, Bd.state]; rfl
  have N0 := Fr.nil n0
  show own_Ends p e below s₁ (entryFrame m #[(.ref s_), (.ref a)] 2) (fun ou Uw => ∃ vu Lu, ou = .returned vu ∧ Q_own_rsi_1 Z s_ c0 h0 n0 vu Uw.heap Lu ∧ FrameEnd s ou Uw Lu ({ frames := 3, cells := 1, slots := 1, locals := 52 } : Room).cells ({ frames := 3, cells := 1, slots := 1, locals := 52 } : Room).slots)
  refine own_start (g' := (mkF m 0 #[rv s_, rv a] [])) (by first | (simp [entryFrame, mkF, argsToLocals, Value.category, iv, rv]; done) | rfl) ?_
  refine own_go (T' := s₁) (g' := (mkF m 1 #[rv s_, rv a] [(.ref s_)])) (fun t k => XS.aloadN X0.here hx rfl (hb hby own_d_jdk_42_method_3_code_0) rfl rfl k) ?_
  refine own_go (T' := s₁) (g' := (mkF m 2 #[rv s_, rv a] [(.ref a), (.ref s_)])) (fun t k => XS.aloadN X0.here hx rfl (hb hby own_d_jdk_42_method_3_code_1) rfl rfl k) ?_
  refine own_go (T' := s₁) (g' := (mkF m 3 #[rv s_, rv a] [(.int (0 : Int32)), (.ref a), (.ref s_)])) (fun t k => XS.iconst X0.here hx rfl (hb hby own_d_jdk_42_method_3_code_2) k) ?_
  refine own_go (T' := s₁) (g' := (mkF m 4 #[rv s_, rv a] [(.ref a), (.int (0 : Int32)), (.ref a), (.ref s_)])) (fun t k => XS.aloadN X0.here hx rfl (hb hby own_d_jdk_42_method_3_code_3) rfl rfl k) ?_
  obtain ⟨cl45, Ar45, -, Sz45, Nn45, -, -⟩ := id V_a
  refine own_go (T' := s₁) (g' := (mkF m 5 #[rv s_, rv a] [(.int (1 : Int32)), (.int (0 : Int32)), (.ref a), (.ref s_)])) (fun t k => X0.arraylength hx (by rw [e0]; exact Ar45.1) (State.isArrayOf_alike hZ.alike Ar45.2.1) (g := (mkF m 4 #[rv s_, rv a] [(.ref a), (.int (0 : Int32)), (.ref a), (.ref s_)])) rfl rfl (hb hby own_d_jdk_42_method_3_code_4) _ (by rw [len_of Sz45 Nn45]; exact k)) ?_
  refine own_go (T' := s₁) (g' := (mkF m 6 #[rv s_, rv a] [.null, (.int (1 : Int32)), (.int (0 : Int32)), (.ref a), (.ref s_)])) (fun t k => XS.aconstNull X0.here hx rfl (hb hby own_d_jdk_42_method_3_code_5) k) ?_
  obtain ⟨_, _, ⟨T46, L46, k46, n46⟩, -, X46, ⟨Lc46, hQ46, l46, y46, z46⟩, st46⟩ := X0.specialBack hx (y := (⟨"java/lang/String", "<init>", "([CIILjava/lang/Void;)V"⟩ : MethodName)) rfl hown (mvT hZ (hw _ (List.mem_of_getElem? (i := 15) rfl))) (mvT hZ (hw _ (List.mem_of_getElem? (i := 16) rfl))) (mvT hZ (hw _ (List.mem_of_getElem? (i := 18) rfl))) (by decide) (backOf (W := 0) (own_rsv_1 l Z a0 hw [] s_ a ka cp c0 h0 n0 Z0 E_s g_s F_c F_v V_a n_as S_cp hcp q0) hZ (hw _ (List.mem_of_getElem? (i := 18) rfl)) (hw _ (List.mem_of_getElem? (i := 10) rfl)) (by decide) (by decide)) (g := (mkF m 6 #[rv s_, rv a] [.null, (.int (1 : Int32)), (.int (0 : Int32)), (.ref a), (.ref s_)])) rfl (by rw [hml]; rfl) (Steps.refl _) (a := s_) (argsL := [(.ref a), (.int (0 : Int32)), (.int (1 : Int32)), .null]) (rest := []) (lenOf own_pd3 rfl) rfl (by show 2 * 0 + _ ≤ _; exact Nat.le_of_eq rfl) (hb hby own_d_jdk_42_method_3_code_6) (fun _ _ => ⟨rfl, e0, (by decide : 0 + 1 ≤ _), (by decide : 0 + 1 ≤ _)⟩)
  dsimp only [Pt.U, Pt.locs, Pt.cells, Pt.slots] at X46 l46 y46 z46 st46 hQ46
  subst l46 y46 z46
  obtain ⟨b_46, k_46, rfl, N46q, ob_46, K_46, e_46, c_46, v_46, V_46, B_46⟩ := hQ46
  have N46 := Fr.app N0 N46q
  have nq47 : s_ ≠ b_46 := Nat.ne_of_lt (Nat.lt_of_lt_of_le E_s.lt ob_46)
  have nq48 : a ≠ b_46 := Nat.ne_of_lt (Nat.lt_of_lt_of_le V_a.lt ob_46)
  have oo_46 : h0.size ≤ b_46 := Nat.le_trans (Keep.refl h0 [s_]).1 ob_46
  have c49 := E_s.keep K_46
  have c54 := V_a.keep K_46 (ninS n_as nin0)
  have c55 := own_sta_keep S_cp K_46 (own_nsS (own_nse E_s) own_ns0)
  have hz46 : n0 ≤ T46.heap.size := Nat.le_trans Z0 K_46.1
  have K46 := Keep.trans (Keep.refl h0 [s_]) K_46 (allS (P := fun x => x ∈ _ ∨ h0.size ≤ x) (Or.inl (List.mem_of_getElem? (i := 0) rfl)) all0)
  refine own_go (T' := T46) (g' := (mkF m 9 #[rv s_, rv a] [])) (fun t k => st46.trans k) ?_
  exact own_ret0 X46 hlk hx Bd.returns (hb hby own_d_jdk_42_method_3_code_9) (by exact ⟨b_46, _, rfl, N46, oo_46, K46, e_46, c_46, v_46, V_46, B_46⟩) (by decide) (by decide)

def Q_own_rc5_2 (Z : State) (b : Addr) (kb : ClassId) (c0 c1 : Int32) (h0 : Heap) (n0 : Nat) (v : Option Value) (h : Heap) (L : List Loc) : Prop := v = some (.int (2 : Int32)) ∧ Fr n0 L ∧ Keep h0 h [b] ∧ Arv Z h b kb .byte (2 : Int32) [(.int c0), (.int c1)] (.int (0 : Int32))
set_option maxRecDepth 65536 in
set_option maxHeartbeats 40000000 in
theorem own_rc5_2 (l : Launch) (Z : State) (a0 : Array Value) (hw : ∀ d ∈ tables_1, d.before a0 Z = true) (ws : List Jvm.Cond) (a b : Addr) (ka kb : ClassId) (c0 c1 : Int32) (h0 : Heap) (n0 : Nat) (Z0 : n0 ≤ h0.size) (V_a : Arv Z h0 a ka .char (2 : Int32) [(.int c0), (.int c1)] (.int (0 : Int32))) (V_b : Arv Z h0 b kb .byte (2 : Int32) [(.int (0 : Int32)), (.int (0 : Int32))] (.int (0 : Int32))) (g_b : n0 ≤ b) (n_ab : a ≠ b) (q0 : own_C c0) (q1 : own_C c1) :
    MetFree l (⟨"java/lang/StringUTF16", "compress", "([CI[BII)I"⟩ : MethodName) (head1 (Jvm.Cond.code (⟨"java/lang/StringUTF16", "compress", "([CI[BII)I"⟩ : MethodName) jdk_52_method_21_code 7 (some .int) :: ws) ({ frames := 0, cells := 0, slots := 0, locals := 0 } : Room)) (fun au Uu => au = #[(.ref a), (.int (0 : Int32)), (.ref b), (.int (0 : Int32)), (.int (2 : Int32))] ∧ Z.Warmed39 Uu.vm ∧ Uu.heap = h0) (fun _ _ _ _ _ => True) (fun _ Uu ou Uw => ∃ vu Lu, ou = .returned vu ∧ Q_own_rc5_2 Z b kb c0 c1 h0 n0 vu Uw.heap Lu ∧ FrameEnd Uu ou Uw Lu ({ frames := 0, cells := 0, slots := 0, locals := 0 } : Room).cells ({ frames := 0, cells := 0, slots := 0, locals := 0 } : Room).slots) := by
  refine MetFree.of_bodySF (plainFor_of_name (by first | (simp [plainName, overriddenIn]; done) | decide +kernel)) hisR ?_
  intro p e s m args below meth c s₁ Bd hml0 hP hK
  obtain ⟨rfl, hZ, hh⟩ := hP
  have hx := Bd.exec
  have hby := Bd.bytes
  have hlk := Bd.notSynchronized
  have hml : c.maxLocals = 7 := hml0
  have hown : s.vm.findClass "java/lang/StringUTF16" = some m.cls := findClass_of_methodNamed Bd.named
  have hnm := (name_of_methodNamed Bd.named Bd.method).1
  have X0 : Stand p l e ({ frames := 0, cells := 0, slots := 0, locals := 0 } : Room) s m #[(.ref a), (.int (0 : Int32)), (.ref b), (.int (0 : Int32)), (.int (2 : Int32))] below meth c s₁ [] 0 0 := Stand.of_body Bd
  have e0 : s₁.heap = h0 := by rw [← hh, Bd.state]; rfl
  have N0 := Fr.nil n0
  show own_Ends p e below s₁ (entryFrame m #[(.ref a), (.int (0 : Int32)), (.ref b), (.int (0 : Int32)), (.int (2 : Int32))] 7) (fun ou Uw => ∃ vu Lu, ou = .returned vu ∧ Q_own_rc5_2 Z b kb c0 c1 h0 n0 vu Uw.heap Lu ∧ FrameEnd s ou Uw Lu ({ frames := 0, cells := 0, slots := 0, locals := 0 } : Room).cells ({ frames := 0, cells := 0, slots := 0, locals := 0 } : Room).slots)
  refine own_start (g' := (mkF m 0 #[rv a, iv (0 : Int32), rv b, iv (0 : Int32), iv (2 : Int32), .unset, .unset] [])) (by first | (simp [entryFrame, mkF, argsToLocals, Value.category, iv, rv]; done) | rfl) ?_
  refine own_go (T' := s₁) (g' := (mkF m 1 #[rv a, iv (0 : Int32), rv b, iv (0 : Int32), iv (2 : Int32), .unset, .unset] [(.int (0 : Int32))])) (fun t k => XS.iconst X0.here hx rfl (hb hby own_d_jdk_52_method_21_code_0) k) ?_
  refine own_go (T' := s₁) (g' := (mkF m 3 #[rv a, iv (0 : Int32), rv b, iv (0 : Int32), iv (2 : Int32), iv (0 : Int32), .unset] [])) (fun t k => XS.istore X0.here hx rfl (hb hby own_d_jdk_52_method_21_code_1) rfl (l' := #[rv a, iv (0 : Int32), rv b, iv (0 : Int32), iv (2 : Int32), iv (0 : Int32), .unset]) rfl k) ?_
  refine own_go (T' := s₁) (g' := (mkF m 5 #[rv a, iv (0 : Int32), rv b, iv (0 : Int32), iv (2 : Int32), iv (0 : Int32), .unset] [(.int (0 : Int32))])) (fun t k => XS.iload X0.here hx rfl (hb hby own_d_jdk_52_method_21_code_3) rfl k) ?_
  refine own_go (T' := s₁) (g' := (mkF m 7 #[rv a, iv (0 : Int32), rv b, iv (0 : Int32), iv (2 : Int32), iv (0 : Int32), .unset] [(.int (2 : Int32)), (.int (0 : Int32))])) (fun t k => XS.iload X0.here hx rfl (hb hby own_d_jdk_52_method_21_code_5) rfl k) ?_
  refine own_go (T' := s₁) (g' := (mkF m 10 #[rv a, iv (0 : Int32), rv b, iv (0 : Int32), iv (2 : Int32), iv (0 : Int32), .unset] [])) (fun t k => XS.icmpNo X0.here hx rfl (hb hby own_d_jdk_52_method_21_code_7) rfl (tlt (by decide : ((0 : Int32) < (2 : Int32)))).2.1 k) ?_
  refine own_go (T' := s₁) (g' := (mkF m 11 #[rv a, iv (0 : Int32), rv b, iv (0 : Int32), iv (2 : Int32), iv (0 : Int32), .unset] [(.ref a)])) (fun t k => XS.aloadN X0.here hx rfl (hb hby own_d_jdk_52_method_21_code_10) rfl rfl k) ?_
  refine own_go (T' := s₁) (g' := (mkF m 12 #[rv a, iv (0 : Int32), rv b, iv (0 : Int32), iv (2 : Int32), iv (0 : Int32), .unset] [(.int (0 : Int32)), (.ref a)])) (fun t k => XS.iloadN X0.here hx rfl (hb hby own_d_jdk_52_method_21_code_11) rfl k) ?_
  obtain ⟨cl56, Ar56, -, Sz56, Nn56, Ha56, -⟩ := id V_a
  have hin56 : ¬ ((0 : Int32) < 0 ∨ cl56.slots.size ≤ ((0 : Int32)).toNatClampNeg) := inb_of Sz56 ⟨by decide, by decide⟩
  have hat56 : cl56.slots[((0 : Int32)).toNatClampNeg]? = some (.int c0) := Ha56.at hin56 rfl
  refine own_go (T' := s₁) (g' := (mkF m 13 #[rv a, iv (0 : Int32), rv b, iv (0 : Int32), iv (2 : Int32), iv (0 : Int32), .unset] [(.int c0)])) (fun t k => X0.caload hx (j := (0 : Int32)) (v := (.int c0)) (by rw [e0]; exact Ar56.1) (State.isArrayOf_alike hZ.alike Ar56.2.1) Ar56.2.2 hin56 hat56 (g := (mkF m 12 #[rv a, iv (0 : Int32), rv b, iv (0 : Int32), iv (2 : Int32), iv (0 : Int32), .unset] [(.int (0 : Int32)), (.ref a)])) rfl rfl (hb hby own_d_jdk_52_method_21_code_12) _ k) ?_
  refine own_go (T' := s₁) (g' := (mkF m 15 #[rv a, iv (0 : Int32), rv b, iv (0 : Int32), iv (2 : Int32), iv (0 : Int32), iv c0] [])) (fun t k => XS.istore X0.here hx rfl (hb hby own_d_jdk_52_method_21_code_13) rfl (l' := #[rv a, iv (0 : Int32), rv b, iv (0 : Int32), iv (2 : Int32), iv (0 : Int32), iv c0]) rfl k) ?_
  refine own_go (T' := s₁) (g' := (mkF m 17 #[rv a, iv (0 : Int32), rv b, iv (0 : Int32), iv (2 : Int32), iv (0 : Int32), iv c0] [(.int c0)])) (fun t k => XS.iload X0.here hx rfl (hb hby own_d_jdk_52_method_21_code_15) rfl k) ?_
  refine own_go (T' := s₁) (g' := (mkF m 20 #[rv a, iv (0 : Int32), rv b, iv (0 : Int32), iv (2 : Int32), iv (0 : Int32), iv c0] [(.int (255 : Int32)), (.int c0)])) (fun t k => XS.sipush X0.here hx rfl (hb hby own_d_jdk_52_method_21_code_17) k) ?_
  refine own_go (T' := s₁) (g' := (mkF m 26 #[rv a, iv (0 : Int32), rv b, iv (0 : Int32), iv (2 : Int32), iv (0 : Int32), iv c0] [])) (fun t k => XS.icmpYes X0.here hx rfl (pc0 := 20) (pc' := 26) rfl (hb hby own_d_jdk_52_method_21_code_20) rfl (flt (own_c255 q0 : ¬ ((255 : Int32) < c0))).2.2.2 (by decide) (by decide) k) ?_
  refine own_go (T' := s₁) (g' := (mkF m 27 #[rv a, iv (0 : Int32), rv b, iv (0 : Int32), iv (2 : Int32), iv (0 : Int32), iv c0] [(.ref b)])) (fun t k => XS.aloadN X0.here hx rfl (hb hby own_d_jdk_52_method_21_code_26) rfl rfl k) ?_
  refine own_go (T' := s₁) (g' := (mkF m 28 #[rv a, iv (0 : Int32), rv b, iv (0 : Int32), iv (2 : Int32), iv (0 : Int32), iv c0] [(.int (0 : Int32)), (.ref b)])) (fun t k => XS.iloadN X0.here hx rfl (hb hby own_d_jdk_52_method_21_code_27) rfl k) ?_
  refine own_go (T' := s₁) (g' := (mkF m 30 #[rv a, iv (0 : Int32), rv b, iv (0 : Int32), iv (2 : Int32), iv (0 : Int32), iv c0] [(.int c0), (.int (0 : Int32)), (.ref b)])) (fun t k => XS.iload X0.here hx rfl (hb hby own_d_jdk_52_method_21_code_28) rfl k) ?_
  refine own_go (T' := s₁) (g' := (mkF m 31 #[rv a, iv (0 : Int32), rv b, iv (0 : Int32), iv (2 : Int32), iv (0 : Int32), iv c0] [(.int (c0.toInt8.toInt32)), (.int (0 : Int32)), (.ref b)])) (fun t k => XS.i2b X0.here hx rfl (hb hby own_d_jdk_52_method_21_code_30) rfl k) ?_
  obtain ⟨cl57, Ar57, q57, Sz57, Nn57, Ha57, Ga57⟩ := id V_b
  have hin57 : ¬ ((0 : Int32) < 0 ∨ cl57.slots.size ≤ ((0 : Int32)).toNatClampNeg) := inb_of Sz57 ⟨by decide, by decide⟩
  obtain ⟨T57, h57, X57, e57, W57, st57⟩ := stB X0 hx hZ e0 Ar57 (j := (0 : Int32)) hin57 (g := (mkF m 31 #[rv a, iv (0 : Int32), rv b, iv (0 : Int32), iv (2 : Int32), iv (0 : Int32), iv c0] [(.int (c0.toInt8.toInt32)), (.int (0 : Int32)), (.ref b)])) rfl rfl (hb hby own_d_jdk_52_method_21_code_31)
  rw [own_nb2 q0] at W57
  have hz57 : n0 ≤ h57.size := Nat.le_trans Z0 (Keep.of_wr W57).1
  have N57 := Fr.snoc X57 N0 g_b
  have K57 := (Keep.refl h0 [b]).wr W57 (Or.inl (List.mem_of_getElem? (i := 0) rfl))
  have c58 := V_a.other W57 n_ab
  have V57 : Arv Z h57 b kb .byte (2 : Int32) [(.int c0), (.int (0 : Int32))] (.int (0 : Int32)) := Arv.set Ar57 q57 Sz57 Nn57 Ha57 Ga57 (own_fitb q0) W57 0 rfl (Nat.le_of_ble_eq_true rfl)
  refine own_go (T' := T57) (g' := (mkF m 32 #[rv a, iv (0 : Int32), rv b, iv (0 : Int32), iv (2 : Int32), iv (0 : Int32), iv c0] [])) (st57) ?_
  refine own_go (T' := T57) (g' := (mkF m 35 #[rv a, iv (1 : Int32), rv b, iv (0 : Int32), iv (2 : Int32), iv (0 : Int32), iv c0] [])) (fun t k => XS.iinc X57.here hx rfl (hb hby own_d_jdk_52_method_21_code_32) rfl (l' := #[rv a, iv (1 : Int32), rv b, iv (0 : Int32), iv (2 : Int32), iv (0 : Int32), iv c0]) rfl k) ?_
  refine own_go (T' := T57) (g' := (mkF m 38 #[rv a, iv (1 : Int32), rv b, iv (1 : Int32), iv (2 : Int32), iv (0 : Int32), iv c0] [])) (fun t k => XS.iinc X57.here hx rfl (hb hby own_d_jdk_52_method_21_code_35) rfl (l' := #[rv a, iv (1 : Int32), rv b, iv (1 : Int32), iv (2 : Int32), iv (0 : Int32), iv c0]) rfl k) ?_
  refine own_go (T' := T57) (g' := (mkF m 41 #[rv a, iv (1 : Int32), rv b, iv (1 : Int32), iv (2 : Int32), iv (1 : Int32), iv c0] [])) (fun t k => XS.iinc X57.here hx rfl (hb hby own_d_jdk_52_method_21_code_38) rfl (l' := #[rv a, iv (1 : Int32), rv b, iv (1 : Int32), iv (2 : Int32), iv (1 : Int32), iv c0]) rfl k) ?_
  refine own_go (T' := T57) (g' := (mkF m 3 #[rv a, iv (1 : Int32), rv b, iv (1 : Int32), iv (2 : Int32), iv (1 : Int32), iv c0] [])) (fun t k => XS.goto X57.here hx rfl (pc0 := 41) (pc' := 3) rfl (hb hby own_d_jdk_52_method_21_code_41) (by decide) (by decide) k) ?_
  refine own_go (T' := T57) (g' := (mkF m 5 #[rv a, iv (1 : Int32), rv b, iv (1 : Int32), iv (2 : Int32), iv (1 : Int32), iv c0] [(.int (1 : Int32))])) (fun t k => XS.iload X57.here hx rfl (hb hby own_d_jdk_52_method_21_code_3) rfl k) ?_
  refine own_go (T' := T57) (g' := (mkF m 7 #[rv a, iv (1 : Int32), rv b, iv (1 : Int32), iv (2 : Int32), iv (1 : Int32), iv c0] [(.int (2 : Int32)), (.int (1 : Int32))])) (fun t k => XS.iload X57.here hx rfl (hb hby own_d_jdk_52_method_21_code_5) rfl k) ?_
  refine own_go (T' := T57) (g' := (mkF m 10 #[rv a, iv (1 : Int32), rv b, iv (1 : Int32), iv (2 : Int32), iv (1 : Int32), iv c0] [])) (fun t k => XS.icmpNo X57.here hx rfl (hb hby own_d_jdk_52_method_21_code_7) rfl (tlt (by decide : ((1 : Int32) < (2 : Int32)))).2.1 k) ?_
  refine own_go (T' := T57) (g' := (mkF m 11 #[rv a, iv (1 : Int32), rv b, iv (1 : Int32), iv (2 : Int32), iv (1 : Int32), iv c0] [(.ref a)])) (fun t k => XS.aloadN X57.here hx rfl (hb hby own_d_jdk_52_method_21_code_10) rfl rfl k) ?_
  refine own_go (T' := T57) (g' := (mkF m 12 #[rv a, iv (1 : Int32), rv b, iv (1 : Int32), iv (2 : Int32), iv (1 : Int32), iv c0] [(.int (1 : Int32)), (.ref a)])) (fun t k => XS.iloadN X57.here hx rfl (hb hby own_d_jdk_52_method_21_code_11) rfl k) ?_
  obtain ⟨cl60, Ar60, -, Sz60, Nn60, Ha60, -⟩ := id c58
  have hin60 : ¬ ((1 : Int32) < 0 ∨ cl60.slots.size ≤ ((1 : Int32)).toNatClampNeg) := inb_of Sz60 ⟨by decide, by decide⟩
  have hat60 : cl60.slots[((1 : Int32)).toNatClampNeg]? = some (.int c1) := Ha60.at hin60 rfl
  refine own_go (T' := T57) (g' := (mkF m 13 #[rv a, iv (1 : Int32), rv b, iv (1 : Int32), iv (2 : Int32), iv (1 : Int32), iv c0] [(.int c1)])) (fun t k => X57.caload hx (j := (1 : Int32)) (v := (.int c1)) (by rw [e57]; exact Ar60.1) (State.isArrayOf_alike hZ.alike Ar60.2.1) Ar60.2.2 hin60 hat60 (g := (mkF m 12 #[rv a, iv (1 : Int32), rv b, iv (1 : Int32), iv (2 : Int32), iv (1 : Int32), iv c0] [(.int (1 : Int32)), (.ref a)])) rfl rfl (hb hby own_d_jdk_52_method_21_code_12) _ k) ?_
  refine own_go (T' := T57) (g' := (mkF m 15 #[rv a, iv (1 : Int32), rv b, iv (1 : Int32), iv (2 : Int32), iv (1 : Int32), iv c1] [])) (fun t k => XS.istore X57.here hx rfl (hb hby own_d_jdk_52_method_21_code_13) rfl (l' := #[rv a, iv (1 : Int32), rv b, iv (1 : Int32), iv (2 : Int32), iv (1 : Int32), iv c1]) rfl k) ?_
  refine own_go (T' := T57) (g' := (mkF m 17 #[rv a, iv (1 : Int32), rv b, iv (1 : Int32), iv (2 : Int32), iv (1 : Int32), iv c1] [(.int c1)])) (fun t k => XS.iload X57.here hx rfl (hb hby own_d_jdk_52_method_21_code_15) rfl k) ?_
  refine own_go (T' := T57) (g' := (mkF m 20 #[rv a, iv (1 : Int32), rv b, iv (1 : Int32), iv (2 : Int32), iv (1 : Int32), iv c1] [(.int (255 : Int32)), (.int c1)])) (fun t k => XS.sipush X57.here hx rfl (hb hby own_d_jdk_52_method_21_code_17) k) ?_
  refine own_go (T' := T57) (g' := (mkF m 26 #[rv a, iv (1 : Int32), rv b, iv (1 : Int32), iv (2 : Int32), iv (1 : Int32), iv c1] [])) (fun t k => XS.icmpYes X57.here hx rfl (pc0 := 20) (pc' := 26) rfl (hb hby own_d_jdk_52_method_21_code_20) rfl (flt (own_c255 q1 : ¬ ((255 : Int32) < c1))).2.2.2 (by decide) (by decide) k) ?_
  refine own_go (T' := T57) (g' := (mkF m 27 #[rv a, iv (1 : Int32), rv b, iv (1 : Int32), iv (2 : Int32), iv (1 : Int32), iv c1] [(.ref b)])) (fun t k => XS.aloadN X57.here hx rfl (hb hby own_d_jdk_52_method_21_code_26) rfl rfl k) ?_
  refine own_go (T' := T57) (g' := (mkF m 28 #[rv a, iv (1 : Int32), rv b, iv (1 : Int32), iv (2 : Int32), iv (1 : Int32), iv c1] [(.int (1 : Int32)), (.ref b)])) (fun t k => XS.iloadN X57.here hx rfl (hb hby own_d_jdk_52_method_21_code_27) rfl k) ?_
  refine own_go (T' := T57) (g' := (mkF m 30 #[rv a, iv (1 : Int32), rv b, iv (1 : Int32), iv (2 : Int32), iv (1 : Int32), iv c1] [(.int c1), (.int (1 : Int32)), (.ref b)])) (fun t k => XS.iload X57.here hx rfl (hb hby own_d_jdk_52_method_21_code_28) rfl k) ?_
  refine own_go (T' := T57) (g' := (mkF m 31 #[rv a, iv (1 : Int32), rv b, iv (1 : Int32), iv (2 : Int32), iv (1 : Int32), iv c1] [(.int (c1.toInt8.toInt32)), (.int (1 : Int32)), (.ref b)])) (fun t k => XS.i2b X57.here hx rfl (hb hby own_d_jdk_52_method_21_code_30) rfl k) ?_
  obtain ⟨cl61, Ar61, q61, Sz61, Nn61, Ha61, Ga61⟩ := id V57
  have hin61 : ¬ ((1 : Int32) < 0 ∨ cl61.slots.size ≤ ((1 : Int32)).toNatClampNeg) := inb_of Sz61 ⟨by decide, by decide⟩
  obtain ⟨T61, h61, X61, e61, W61, st61⟩ := stB X57 hx hZ e57 Ar61 (j := (1 : Int32)) hin61 (g := (mkF m 31 #[rv a, iv (1 : Int32), rv b, iv (1 : Int32), iv (2 : Int32), iv (1 : Int32), iv c1] [(.int (c1.toInt8.toInt32)), (.int (1 : Int32)), (.ref b)])) rfl rfl (hb hby own_d_jdk_52_method_21_code_31)
  rw [own_nb2 q1] at W61
  have hz61 : n0 ≤ h61.size := Nat.le_trans hz57 (Keep.of_wr W61).1
  have N61 := Fr.snoc X61 N57 g_b
  have K61 := K57.wr W61 (Or.inl (List.mem_of_getElem? (i := 0) rfl))
  have c62 := c58.other W61 n_ab
  have V61 : Arv Z h61 b kb .byte (2 : Int32) [(.int c0), (.int c1)] (.int (0 : Int32)) := Arv.set Ar61 q61 Sz61 Nn61 Ha61 Ga61 (own_fitb q1) W61 1 rfl (Nat.le_of_ble_eq_true rfl)
  refine own_go (T' := T61) (g' := (mkF m 32 #[rv a, iv (1 : Int32), rv b, iv (1 : Int32), iv (2 : Int32), iv (1 : Int32), iv c1] [])) (st61) ?_
  refine own_go (T' := T61) (g' := (mkF m 35 #[rv a, iv (2 : Int32), rv b, iv (1 : Int32), iv (2 : Int32), iv (1 : Int32), iv c1] [])) (fun t k => XS.iinc X61.here hx rfl (hb hby own_d_jdk_52_method_21_code_32) rfl (l' := #[rv a, iv (2 : Int32), rv b, iv (1 : Int32), iv (2 : Int32), iv (1 : Int32), iv c1]) rfl k) ?_
  refine own_go (T' := T61) (g' := (mkF m 38 #[rv a, iv (2 : Int32), rv b, iv (2 : Int32), iv (2 : Int32), iv (1 : Int32), iv c1] [])) (fun t k => XS.iinc X61.here hx rfl (hb hby own_d_jdk_52_method_21_code_35) rfl (l' := #[rv a, iv (2 : Int32), rv b, iv (2 : Int32), iv (2 : Int32), iv (1 : Int32), iv c1]) rfl k) ?_
  refine own_go (T' := T61) (g' := (mkF m 41 #[rv a, iv (2 : Int32), rv b, iv (2 : Int32), iv (2 : Int32), iv (2 : Int32), iv c1] [])) (fun t k => XS.iinc X61.here hx rfl (hb hby own_d_jdk_52_method_21_code_38) rfl (l' := #[rv a, iv (2 : Int32), rv b, iv (2 : Int32), iv (2 : Int32), iv (2 : Int32), iv c1]) rfl k) ?_
  refine own_go (T' := T61) (g' := (mkF m 3 #[rv a, iv (2 : Int32), rv b, iv (2 : Int32), iv (2 : Int32), iv (2 : Int32), iv c1] [])) (fun t k => XS.goto X61.here hx rfl (pc0 := 41) (pc' := 3) rfl (hb hby own_d_jdk_52_method_21_code_41) (by decide) (by decide) k) ?_
  refine own_go (T' := T61) (g' := (mkF m 5 #[rv a, iv (2 : Int32), rv b, iv (2 : Int32), iv (2 : Int32), iv (2 : Int32), iv c1] [(.int (2 : Int32))])) (fun t k => XS.iload X61.here hx rfl (hb hby own_d_jdk_52_method_21_code_3) rfl k) ?_
  refine own_go (T' := T61) (g' := (mkF m 7 #[rv a, iv (2 : Int32), rv b, iv (2 : Int32), iv (2 : Int32), iv (2 : Int32), iv c1] [(.int (2 : Int32)), (.int (2 : Int32))])) (fun t k => XS.iload X61.here hx rfl (hb hby own_d_jdk_52_method_21_code_5) rfl k) ?_
  refine own_go (T' := T61) (g' := (mkF m 44 #[rv a, iv (2 : Int32), rv b, iv (2 : Int32), iv (2 : Int32), iv (2 : Int32), iv c1] [])) (fun t k => XS.icmpYes X61.here hx rfl (pc0 := 7) (pc' := 44) rfl (hb hby own_d_jdk_52_method_21_code_7) rfl (flt (by decide : ¬ ((2 : Int32) < (2 : Int32)))).2.1 (by decide) (by decide) k) ?_
  refine own_go (T' := T61) (g' := (mkF m 46 #[rv a, iv (2 : Int32), rv b, iv (2 : Int32), iv (2 : Int32), iv (2 : Int32), iv c1] [(.int (2 : Int32))])) (fun t k => XS.iload X61.here hx rfl (hb hby own_d_jdk_52_method_21_code_44) rfl k) ?_
  exact own_ret X61 hlk hx Bd.returns rfl (Or.inl ⟨rfl, Or.inl rfl, _, rfl⟩) (hb hby own_d_jdk_52_method_21_code_46) (by rw [e61]; exact ⟨rfl, N61, K61, V61⟩) (by decide) (by decide)

def Q_own_rc3_2 (Z : State) (c0 c1 : Int32) (h0 : Heap) (n0 : Nat) (v : Option Value) (h : Heap) (L : List Loc) : Prop := ∃ (b : Addr) (kb : ClassId), v = some (.ref b) ∧ Fr n0 L ∧ h0.size ≤ b ∧ Keep h0 h [] ∧ Arv Z h b kb .byte (2 : Int32) [(.int c0), (.int c1)] (.int (0 : Int32)) ∧ Exa Z h b "[B"
set_option maxRecDepth 65536 in
set_option maxHeartbeats 40000000 in
theorem own_rc3_2 (l : Launch) (Z : State) (a0 : Array Value) (hw : ∀ d ∈ tables_1, d.before a0 Z = true) (ws : List Jvm.Cond) (a : Addr) (ka : ClassId) (c0 c1 : Int32) (h0 : Heap) (n0 : Nat) (Z0 : n0 ≤ h0.size) (V_a : Arv Z h0 a ka .char (2 : Int32) [(.int c0), (.int c1)] (.int (0 : Int32))) (q0 : own_C c0) (q1 : own_C c1) :
    MetFree l (⟨"java/lang/StringUTF16", "compress", "([CII)[B"⟩ : MethodName) (head1 (Jvm.Cond.code (⟨"java/lang/StringUTF16", "compress", "([CII)[B"⟩ : MethodName) jdk_52_method_16_code 6 (some (.array .byte)) :: ws) ({ frames := 1, cells := 1, slots := 2, locals := 18 } : Room)) (fun au Uu => au = #[(.ref a), (.int (0 : Int32)), (.int (2 : Int32))] ∧ Z.Warmed39 Uu.vm ∧ Uu.heap = h0) (fun _ _ _ _ _ => True) (fun _ Uu ou Uw => ∃ vu Lu, ou = .returned vu ∧ Q_own_rc3_2 Z c0 c1 h0 n0 vu Uw.heap Lu ∧ FrameEnd Uu ou Uw Lu ({ frames := 1, cells := 1, slots := 2, locals := 18 } : Room).cells ({ frames := 1, cells := 1, slots := 2, locals := 18 } : Room).slots) := by
  refine MetFree.of_bodySF (plainFor_of_name (by first | (simp [plainName, overriddenIn]; done) | decide +kernel)) hisR ?_
  intro p e s m args below meth c s₁ Bd hml0 hP hK
  obtain ⟨rfl, hZ, hh⟩ := hP
  have hx := Bd.exec
  have hby := Bd.bytes
  have hlk := Bd.notSynchronized
  have hml : c.maxLocals = 6 := hml0
  have hown : s.vm.findClass "java/lang/StringUTF16" = some m.cls := findClass_of_methodNamed Bd.named
  have hnm := (name_of_methodNamed Bd.named Bd.method).1
  have X0 : Stand p l e ({ frames := 1, cells := 1, slots := 2, locals := 18 } : Room) s m #[(.ref a), (.int (0 : Int32)), (.int (2 : Int32))] below meth c s₁ [] 0 0 := Stand.of_body Bd
  have e0 : s₁.heap = h0 := by rw [← hh, Bd.state]; rfl
  have N0 := Fr.nil n0
  show own_Ends p e below s₁ (entryFrame m #[(.ref a), (.int (0 : Int32)), (.int (2 : Int32))] 6) (fun ou Uw => ∃ vu Lu, ou = .returned vu ∧ Q_own_rc3_2 Z c0 c1 h0 n0 vu Uw.heap Lu ∧ FrameEnd s ou Uw Lu ({ frames := 1, cells := 1, slots := 2, locals := 18 } : Room).cells ({ frames := 1, cells := 1, slots := 2, locals := 18 } : Room).slots)
  refine own_start (g' := (mkF m 0 #[rv a, iv (0 : Int32), iv (2 : Int32), .unset, .unset, .unset] [])) (by first | (simp [entryFrame, mkF, argsToLocals, Value.category, iv, rv]; done) | rfl) ?_
  refine own_go (T' := s₁) (g' := (mkF m 1 #[rv a, iv (0 : Int32), iv (2 : Int32), .unset, .unset, .unset] [(.int (2 : Int32))])) (fun t k => XS.iloadN X0.here hx rfl (hb hby own_d_jdk_52_method_16_code_0) rfl k) ?_
  obtain ⟨T64, h64, k64, X64, e64, E64, A64, B64, st64⟩ := newPE X0 hx hZ (hw _ (List.mem_of_getElem? (i := 27) rfl)) e0 (g := (mkF m 1 #[rv a, iv (0 : Int32), iv (2 : Int32), .unset, .unset, .unset] [(.int (2 : Int32))])) rfl (hb hby own_d_jdk_52_method_16_code_1) rfl (by decide) (cap := 2) (by decide) (by decide) (by decide) (by decide) (ad := "[B") (by decide)
  obtain ⟨b64, g64⟩ : ∃ z, z = h0.size := ⟨_, rfl⟩
  rw [← g64] at A64 B64 st64
  have gn64 : n0 ≤ b64 := Nat.le_trans Z0 (Nat.le_of_eq g64.symm)
  have hz64 : n0 ≤ h64.size := Nat.le_trans Z0 E64.1
  have o64 : h0.size ≤ b64 := Nat.le_trans (Keep.refl h0 []).1 (Nat.le_of_eq g64.symm)
  have K64 := (Keep.refl h0 []).ext E64
  have c65 := V_a.ext E64
  have ne66 : a ≠ b64 := Nat.ne_of_lt (Nat.lt_of_lt_of_le V_a.lt (Nat.le_of_eq g64.symm))
  have V64 : Arv Z h64 b64 k64 .byte (2 : Int32) [(.int (0 : Int32)), (.int (0 : Int32))] (.int (0 : Int32)) := (Arv.new A64 (by decide)).pad (pad_rep [] (.int (0 : Int32)) 2)
  refine own_go (T' := T64) (g' := (mkF m 3 #[rv a, iv (0 : Int32), iv (2 : Int32), .unset, .unset, .unset] [(.ref b64)])) (st64) ?_
  refine own_go (T' := T64) (g' := (mkF m 4 #[rv a, iv (0 : Int32), iv (2 : Int32), rv b64, .unset, .unset] [])) (fun t k => XS.astoreN X64.here hx rfl (hb hby own_d_jdk_52_method_16_code_3) rfl rfl (l' := #[rv a, iv (0 : Int32), iv (2 : Int32), rv b64, .unset, .unset]) rfl k) ?_
  refine own_go (T' := T64) (g' := (mkF m 5 #[rv a, iv (0 : Int32), iv (2 : Int32), rv b64, .unset, .unset] [(.ref a)])) (fun t k => XS.aloadN X64.here hx rfl (hb hby own_d_jdk_52_method_16_code_4) rfl rfl k) ?_
  refine own_go (T' := T64) (g' := (mkF m 6 #[rv a, iv (0 : Int32), iv (2 : Int32), rv b64, .unset, .unset] [(.int (0 : Int32)), (.ref a)])) (fun t k => XS.iloadN X64.here hx rfl (hb hby own_d_jdk_52_method_16_code_5) rfl k) ?_
  refine own_go (T' := T64) (g' := (mkF m 7 #[rv a, iv (0 : Int32), iv (2 : Int32), rv b64, .unset, .unset] [(.ref b64), (.int (0 : Int32)), (.ref a)])) (fun t k => XS.aloadN X64.here hx rfl (hb hby own_d_jdk_52_method_16_code_6) rfl rfl k) ?_
  refine own_go (T' := T64) (g' := (mkF m 8 #[rv a, iv (0 : Int32), iv (2 : Int32), rv b64, .unset, .unset] [(.int (0 : Int32)), (.ref b64), (.int (0 : Int32)), (.ref a)])) (fun t k => XS.iconst X64.here hx rfl (hb hby own_d_jdk_52_method_16_code_7) k) ?_
  refine own_go (T' := T64) (g' := (mkF m 9 #[rv a, iv (0 : Int32), iv (2 : Int32), rv b64, .unset, .unset] [(.int (2 : Int32)), (.int (0 : Int32)), (.ref b64), (.int (0 : Int32)), (.ref a)])) (fun t k => XS.iloadN X64.here hx rfl (hb hby own_d_jdk_52_method_16_code_8) rfl k) ?_
  obtain ⟨_, _, ⟨T67, L67, k67, n67⟩, -, X67, ⟨Lc67, hQ67, l67, y67, z67⟩, st67⟩ := Jvm.LawKit.callS X64 hx (y := (⟨"java/lang/StringUTF16", "compress", "([CI[BII)I"⟩ : MethodName)) hown (mvT hZ (hw _ (List.mem_of_getElem? (i := 28) rfl))) (mvT hZ (hw _ (List.mem_of_getElem? (i := 29) rfl))) (mvT hZ (hw _ (List.mem_of_getElem? (i := 25) rfl))) (mvT hZ (hw _ (List.mem_of_getElem? (i := 30) rfl))) (by decide) (backOf (W := 0) (own_rc5_2 l Z a0 hw [] a b64 ka k64 c0 c1 h64 n0 hz64 c65 V64 gn64 ne66 q0 q1) hZ (hw _ (List.mem_of_getElem? (i := 30) rfl)) (hw _ (List.mem_of_getElem? (i := 25) rfl)) (by decide) (by decide)) (g := (mkF m 9 #[rv a, iv (0 : Int32), iv (2 : Int32), rv b64, .unset, .unset] [(.int (2 : Int32)), (.int (0 : Int32)), (.ref b64), (.int (0 : Int32)), (.ref a)])) rfl (by rw [hml]; rfl) (argsL := [(.ref a), (.int (0 : Int32)), (.ref b64), (.int (0 : Int32)), (.int (2 : Int32))]) (rest := []) (lenOf own_pd0 rfl) rfl (by show 2 * 0 + _ ≤ _; exact Nat.le_of_eq rfl) (hb hby own_d_jdk_52_method_16_code_9) (fun _ _ => ⟨rfl, e64, (by decide : 1 + 0 ≤ _), (by decide : 2 + 0 ≤ _)⟩)
  dsimp only [Pt.U, Pt.locs, Pt.cells, Pt.slots] at X67 l67 y67 z67 st67 hQ67
  subst l67 y67 z67
  obtain ⟨rfl, N67q, K_67, V_67⟩ := hQ67
  have N67 := Fr.app N0 N67q
  have c68 := c65.keep K_67 (ninS ne66 nin0)
  have c72 := B64.keep K_67
  have hz67 : n0 ≤ T67.heap.size := Nat.le_trans hz64 K_67.1
  have K67 := Keep.trans K64 K_67 (allS (P := fun x => x ∈ _ ∨ h0.size ≤ x) (Or.inr o64) all0)
  refine own_go (T' := T67) (g' := (mkF m 12 #[rv a, iv (0 : Int32), iv (2 : Int32), rv b64, .unset, .unset] [(.int (2 : Int32))])) (st67) ?_
  refine own_go (T' := T67) (g' := (mkF m 14 #[rv a, iv (0 : Int32), iv (2 : Int32), rv b64, iv (2 : Int32), .unset] [])) (fun t k => XS.istore X67.here hx rfl (hb hby own_d_jdk_52_method_16_code_12) rfl (l' := #[rv a, iv (0 : Int32), iv (2 : Int32), rv b64, iv (2 : Int32), .unset]) rfl k) ?_
  refine own_go (T' := T67) (g' := (mkF m 16 #[rv a, iv (0 : Int32), iv (2 : Int32), rv b64, iv (2 : Int32), .unset] [(.int (2 : Int32))])) (fun t k => XS.iload X67.here hx rfl (hb hby own_d_jdk_52_method_16_code_14) rfl k) ?_
  refine own_go (T' := T67) (g' := (mkF m 17 #[rv a, iv (0 : Int32), iv (2 : Int32), rv b64, iv (2 : Int32), .unset] [(.int (2 : Int32)), (.int (2 : Int32))])) (fun t k => XS.iloadN X67.here hx rfl (hb hby own_d_jdk_52_method_16_code_16) rfl k) ?_
  refine own_go (T' := T67) (g' := (mkF m 57 #[rv a, iv (0 : Int32), iv (2 : Int32), rv b64, iv (2 : Int32), .unset] [])) (fun t k => XS.icmpYes X67.here hx rfl (pc0 := 17) (pc' := 57) rfl (hb hby own_d_jdk_52_method_16_code_17) rfl (teq (by decide : ((2 : Int32) = (2 : Int32)))).1 (by decide) (by decide) k) ?_
  refine own_go (T' := T67) (g' := (mkF m 58 #[rv a, iv (0 : Int32), iv (2 : Int32), rv b64, iv (2 : Int32), .unset] [(.ref b64)])) (fun t k => XS.aloadN X67.here hx rfl (hb hby own_d_jdk_52_method_16_code_57) rfl rfl k) ?_
  exact own_ret X67 hlk hx Bd.returns rfl (Or.inr (Or.inr (Or.inr (Or.inr ⟨rfl, rfl, rfl⟩)))) (hb hby own_d_jdk_52_method_16_code_58) (by exact ⟨b64, _, rfl, N67, o64, K67, V_67, c72⟩) (by decide) (by decide)

def Q_own_rco_2  (h0 : Heap) (n0 : Nat) (v : Option Value) (h : Heap) (L : List Loc) : Prop := v = some (.int 0) ∧ L = [] ∧ h = h0
set_option maxRecDepth 65536 in
set_option maxHeartbeats 40000000 in
theorem own_rco_2 (l : Launch) (Z : State) (a0 : Array Value) (hw : ∀ d ∈ tables_1, d.before a0 Z = true) (ws : List Jvm.Cond) (b : Addr) (kb : ClassId) (c0 c1 : Int32) (h0 : Heap) (n0 : Nat) (Z0 : n0 ≤ h0.size) (V_b : Arv Z h0 b kb .byte (2 : Int32) [(.int c0), (.int c1)] (.int (0 : Int32))) :
    MetFree l (⟨"java/lang/StringUTF16", "coderFromArrayLen", "([BI)B"⟩ : MethodName) (head1 (Jvm.Cond.code (⟨"java/lang/StringUTF16", "coderFromArrayLen", "([BI)B"⟩ : MethodName) jdk_52_method_15_code 2 (some .byte) :: ws) ({ frames := 0, cells := 0, slots := 0, locals := 0 } : Room)) (fun au Uu => au = #[(.ref b), (.int (2 : Int32))] ∧ Z.Warmed39 Uu.vm ∧ Uu.heap = h0) (fun _ _ _ _ _ => True) (fun _ Uu ou Uw => ∃ vu Lu, ou = .returned vu ∧ Q_own_rco_2  h0 n0 vu Uw.heap Lu ∧ FrameEnd Uu ou Uw Lu ({ frames := 0, cells := 0, slots := 0, locals := 0 } : Room).cells ({ frames := 0, cells := 0, slots := 0, locals := 0 } : Room).slots) := by
  refine MetFree.of_bodySF (plainFor_of_name (by first | (simp [plainName, overriddenIn]; done) | decide +kernel)) hisR ?_
  intro p e s m args below meth c s₁ Bd hml0 hP hK
  obtain ⟨rfl, hZ, hh⟩ := hP
  have hx := Bd.exec
  have hby := Bd.bytes
  have hlk := Bd.notSynchronized
  have hml : c.maxLocals = 2 := hml0
  have hown : s.vm.findClass "java/lang/StringUTF16" = some m.cls := findClass_of_methodNamed Bd.named
  have hnm := (name_of_methodNamed Bd.named Bd.method).1
  have X0 : Stand p l e ({ frames := 0, cells := 0, slots := 0, locals := 0 } : Room) s m #[(.ref b), (.int (2 : Int32))] below meth c s₁ [] 0 0 := Stand.of_body Bd
  have e0 : s₁.heap = h0 := by rw [← hh, Bd.state]; rfl
  have N0 := Fr.nil n0
  show own_Ends p e below s₁ (entryFrame m #[(.ref b), (.int (2 : Int32))] 2) (fun ou Uw => ∃ vu Lu, ou = .returned vu ∧ Q_own_rco_2  h0 n0 vu Uw.heap Lu ∧ FrameEnd s ou Uw Lu ({ frames := 0, cells := 0, slots := 0, locals := 0 } : Room).cells ({ frames := 0, cells := 0, slots := 0, locals := 0 } : Room).slots)
  refine own_start (g' := (mkF m 0 #[rv b, iv (2 : Int32)] [])) (by first | (simp [entryFrame, mkF, argsToLocals, Value.category, iv, rv]; done) | rfl) ?_
  refine own_go (T' := s₁) (g' := (mkF m 1 #[rv b, iv (2 : Int32)] [(.int (2 : Int32))])) (fun t k => XS.iloadN X0.here hx rfl (hb hby own_d_jdk_52_method_15_code_0) rfl k) ?_
  refine own_go (T' := s₁) (g' := (mkF m 2 #[rv b, iv (2 : Int32)] [(.ref b), (.int (2 : Int32))])) (fun t k => XS.aloadN X0.here hx rfl (hb hby own_d_jdk_52_method_15_code_1) rfl rfl k) ?_
  obtain ⟨cl74, Ar74, -, Sz74, Nn74, -, -⟩ := id V_b
  refine own_go (T' := s₁) (g' := (mkF m 3 #[rv b, iv (2 : Int32)] [(.int (2 : Int32)), (.int (2 : Int32))])) (fun t k => X0.arraylength hx (by rw [e0]; exact Ar74.1) (State.isArrayOf_alike hZ.alike Ar74.2.1) (g := (mkF m 2 #[rv b, iv (2 : Int32)] [(.ref b), (.int (2 : Int32))])) rfl rfl (hb hby own_d_jdk_52_method_15_code_2) _ (by rw [len_of Sz74 Nn74]; exact k)) ?_
  refine own_go (T' := s₁) (g' := (mkF m 4 #[rv b, iv (2 : Int32)] [(.int ((2 : Int32) - (2 : Int32)))])) (fun t k => XS.isub X0.here hx rfl (hb hby own_d_jdk_52_method_15_code_3) rfl k) ?_
  refine own_go (T' := s₁) (g' := (mkF m 6 #[rv b, iv (2 : Int32)] [(.int (31 : Int32)), (.int ((2 : Int32) - (2 : Int32)))])) (fun t k => XS.bipush X0.here hx rfl (hb hby own_d_jdk_52_method_15_code_4) k) ?_
  refine own_go (T' := s₁) (g' := (mkF m 7 #[rv b, iv (2 : Int32)] [(.int ((((2 : Int32) - (2 : Int32)).toUInt32 >>> ((31 : Int32) &&& 31).toUInt32).toInt32))])) (fun t k => XS.iushr X0.here hx rfl (hb hby own_d_jdk_52_method_15_code_6) rfl k) ?_
  refine own_go (T' := s₁) (g' := (mkF m 8 #[rv b, iv (2 : Int32)] [(.int (((((2 : Int32) - (2 : Int32)).toUInt32 >>> ((31 : Int32) &&& 31).toUInt32).toInt32).toInt8.toInt32))])) (fun t k => XS.i2b X0.here hx rfl (hb hby own_d_jdk_52_method_15_code_7) rfl k) ?_
  exact own_ret X0 hlk hx Bd.returns (by decide) (Or.inl ⟨rfl, Or.inr (Or.inr (Or.inl rfl)), _, rfl⟩) (hb hby own_d_jdk_52_method_15_code_8) ⟨congrArg (fun z => some (Value.int z)) (by decide), rfl, e0⟩ (by decide) (by decide)

def Q_own_rsv_2 (Z : State) (s : Addr) (c0 c1 : Int32) (h0 : Heap) (n0 : Nat) (v : Option Value) (h : Heap) (L : List Loc) : Prop := ∃ (b : Addr) (kb : ClassId), v = none ∧ Fr n0 L ∧ h0.size ≤ b ∧ Keep h0 h [s] ∧ Exa Z h s "java/lang/String" ∧ Fld Z h s "java/lang/String" "coder" "B" (.int 0) ∧ Fld Z h s "java/lang/String" "value" "[B" (.ref b) ∧ Arv Z h b kb .byte (2 : Int32) [(.int c0), (.int c1)] (.int (0 : Int32)) ∧ Exa Z h b "[B"
set_option maxRecDepth 65536 in
set_option maxHeartbeats 40000000 in
theorem own_rsv_2 (l : Launch) (Z : State) (a0 : Array Value) (hw : ∀ d ∈ tables_1, d.before a0 Z = true) (ws : List Jvm.Cond) (s_ a : Addr) (ka : ClassId) (cp : Int32) (c0 c1 : Int32) (h0 : Heap) (n0 : Nat) (Z0 : n0 ≤ h0.size) (E_s : Exa Z h0 s_ "java/lang/String") (g_s : n0 ≤ s_) (F_c : Fld Z h0 s_ "java/lang/String" "coder" "B" (.int 0)) (F_v : Fld Z h0 s_ "java/lang/String" "value" "[B" .null) (V_a : Arv Z h0 a ka .char (2 : Int32) [(.int c0), (.int c1)] (.int (0 : Int32))) (n_as : a ≠ s_) (S_cp : Sta Z h0 "java/lang/String" "COMPACT_STRINGS" "Z" (.int cp)) (hcp : ¬ cp = 0) (q0 : own_C c0) (q1 : own_C c1) :
    MetFree l (⟨"java/lang/String", "<init>", "([CIILjava/lang/Void;)V"⟩ : MethodName) (head1 (Jvm.Cond.code (⟨"java/lang/String", "<init>", "([CIILjava/lang/Void;)V"⟩ : MethodName) jdk_42_method_149_code 6 none :: ws) ({ frames := 2, cells := 1, slots := 2, locals := 35 } : Room)) (fun au Uu => au = #[(.ref s_), (.ref a), (.int (0 : Int32)), (.int (2 : Int32)), .null] ∧ Z.Warmed39 Uu.vm ∧ Uu.heap = h0) (fun _ _ _ _ _ => True) (fun _ Uu ou Uw => ∃ vu Lu, ou = .returned vu ∧ Q_own_rsv_2 Z s_ c0 c1 h0 n0 vu Uw.heap Lu ∧ FrameEnd Uu ou Uw Lu ({ frames := 2, cells := 1, slots := 2, locals := 35 } : Room).cells ({ frames := 2, cells := 1, slots := 2, locals := 35 } : Room).slots) := by
  refine MetFree.of_bodySF (plainFor_of_name (by first | (simp [plainName, overriddenIn]; done) | decide +kernel)) hisR ?_
  intro p e s m args below meth c s₁ Bd hml0 hP hK
  obtain ⟨rfl, hZ, hh⟩ := hP
  have hx := Bd.exec
  have hby := Bd.bytes
  have hlk := Bd.notSynchronized
  have hml : c.maxLocals = 6 := hml0
  have hown : s.vm.findClass "java/lang/String" = some m.cls := findClass_of_methodNamed Bd.named
  have hnm := (name_of_methodNamed Bd.named Bd.method).1
  have X0 : Stand p l e ({ frames := 2, cells := 1, slots := 2, locals := 35 } : Room) s m #[(.ref s_), (.ref a), (.int (0 : Int32)), (.int (2 : Int32)), .null] below meth c s₁ [] 0 0 := Stand.of_body Bd
  have e0 : s₁.heap = h0 := by rw [← hh, Bd.state]; rfl
  have N0 := Fr.nil n0
  show own_Ends p e below s₁ (entryFrame m #[(.ref s_), (.ref a), (.int (0 : Int32)), (.int (2 : Int32)), .null] 6) (fun ou Uw => ∃ vu Lu, ou = .returned vu ∧ Q_own_rsv_2 Z s_ c0 c1 h0 n0 vu Uw.heap Lu ∧ FrameEnd s ou Uw Lu ({ frames := 2, cells := 1, slots := 2, locals := 35 } : Room).cells ({ frames := 2, cells := 1, slots := 2, locals := 35 } : Room).slots)
  refine own_start (g' := (mkF m 0 #[rv s_, rv a, iv (0 : Int32), iv (2 : Int32), .val .null, .unset] [])) (by first | (simp [entryFrame, mkF, argsToLocals, Value.category, iv, rv]; done) | rfl) ?_
  refine own_go (T' := s₁) (g' := (mkF m 1 #[rv s_, rv a, iv (0 : Int32), iv (2 : Int32), .val .null, .unset] [(.ref s_)])) (fun t k => XS.aloadN X0.here hx rfl (hb hby own_d_jdk_42_method_149_code_0) rfl rfl k) ?_
  obtain ⟨T75, X75, e75, st75⟩ := initO X0 hx hZ hown (hw _ (List.mem_of_getElem? (i := 19) rfl)) (hw _ (List.mem_of_getElem? (i := 20) rfl)) (hw _ (List.mem_of_getElem? (i := 21) rfl)) e0 (g := (mkF m 1 #[rv s_, rv a, iv (0 : Int32), iv (2 : Int32), .val .null, .unset] [(.ref s_)])) rfl (by rw [hml]; rfl) rfl (hb hby own_d_jdk_42_method_149_code_1) (by decide) (W := 0) (by show 2 * 0 + _ ≤ _; exact Nat.le_of_eq rfl) (by decide)
  refine own_go (T' := T75) (g' := (mkF m 4 #[rv s_, rv a, iv (0 : Int32), iv (2 : Int32), .val .null, .unset] [])) (st75) ?_
  refine own_go (T' := T75) (g' := (mkF m 5 #[rv s_, rv a, iv (0 : Int32), iv (2 : Int32), .val .null, .unset] [(.int (2 : Int32))])) (fun t k => XS.iloadN X75.here hx rfl (hb hby own_d_jdk_42_method_149_code_4) rfl k) ?_
  refine own_go (T' := T75) (g' := (mkF m 27 #[rv s_, rv a, iv (0 : Int32), iv (2 : Int32), .val .null, .unset] [])) (fun t k => XS.ifYes X75.here hx rfl (pc0 := 5) (pc' := 27) rfl (hb hby own_d_jdk_42_method_149_code_5) rfl ((if0 _ _).trans (feq (by decide : ¬ ((2 : Int32) = (0 : Int32)))).2) (by decide) (by decide) k) ?_
  obtain ⟨T76, X76, e76, st76⟩ := getS2 X75 hx hZ hown (host := "") (Or.inl (hw _ (List.mem_of_getElem? (i := 22) rfl))) Via.refl e75 S_cp (g := (mkF m 27 #[rv s_, rv a, iv (0 : Int32), iv (2 : Int32), .val .null, .unset] [])) rfl (hb hby own_d_jdk_42_method_149_code_27)
  refine own_go (T' := T76) (g' := (mkF m 30 #[rv s_, rv a, iv (0 : Int32), iv (2 : Int32), .val .null, .unset] [(.int cp)])) (st76) ?_
  refine own_go (T' := T76) (g' := (mkF m 33 #[rv s_, rv a, iv (0 : Int32), iv (2 : Int32), .val .null, .unset] [])) (fun t k => XS.ifNo X76.here hx rfl (hb hby own_d_jdk_42_method_149_code_30) rfl ((if0 _ _).trans (feq (hcp : ¬ (cp = (0 : Int32)))).1) k) ?_
  refine own_go (T' := T76) (g' := (mkF m 34 #[rv s_, rv a, iv (0 : Int32), iv (2 : Int32), .val .null, .unset] [(.ref a)])) (fun t k => XS.aloadN X76.here hx rfl (hb hby own_d_jdk_42_method_149_code_33) rfl rfl k) ?_
  refine own_go (T' := T76) (g' := (mkF m 35 #[rv s_, rv a, iv (0 : Int32), iv (2 : Int32), .val .null, .unset] [(.int (0 : Int32)), (.ref a)])) (fun t k => XS.iloadN X76.here hx rfl (hb hby own_d_jdk_42_method_149_code_34) rfl k) ?_
  refine own_go (T' := T76) (g' := (mkF m 36 #[rv s_, rv a, iv (0 : Int32), iv (2 : Int32), .val .null, .unset] [(.int (2 : Int32)), (.int (0 : Int32)), (.ref a)])) (fun t k => XS.iloadN X76.here hx rfl (hb hby own_d_jdk_42_method_149_code_35) rfl k) ?_
  obtain ⟨_, _, ⟨T77, L77, k77, n77⟩, -, X77, ⟨Lc77, hQ77, l77, y77, z77⟩, st77⟩ := Jvm.LawKit.callS X76 hx (y := (⟨"java/lang/StringUTF16", "compress", "([CII)[B"⟩ : MethodName)) hown (mvT hZ (hw _ (List.mem_of_getElem? (i := 23) rfl))) (mvT hZ (hw _ (List.mem_of_getElem? (i := 24) rfl))) (mvT hZ (hw _ (List.mem_of_getElem? (i := 25) rfl))) (mvT hZ (hw _ (List.mem_of_getElem? (i := 26) rfl))) (by decide) (backOf (W := 0) (own_rc3_2 l Z a0 hw [] a ka c0 c1 h0 n0 Z0 V_a q0 q1) hZ (hw _ (List.mem_of_getElem? (i := 26) rfl)) (hw _ (List.mem_of_getElem? (i := 25) rfl)) (by decide) (by decide)) (g := (mkF m 36 #[rv s_, rv a, iv (0 : Int32), iv (2 : Int32), .val .null, .unset] [(.int (2 : Int32)), (.int (0 : Int32)), (.ref a)])) rfl (by rw [hml]; rfl) (argsL := [(.ref a), (.int (0 : Int32)), (.int (2 : Int32))]) (rest := []) (lenOf own_pd1 rfl) rfl (by show 2 * 0 + _ ≤ _; exact Nat.le_of_eq rfl) (hb hby own_d_jdk_42_method_149_code_36) (fun _ _ => ⟨rfl, e76, (by decide : 0 + 1 ≤ _), (by decide : 0 + 2 ≤ _)⟩)
  dsimp only [Pt.U, Pt.locs, Pt.cells, Pt.slots] at X77 l77 y77 z77 st77 hQ77
  subst l77 y77 z77
  obtain ⟨b_77, k_77, rfl, N77q, ob_77, K_77, V_77, B_77⟩ := hQ77
  have N77 := Fr.app N0 N77q
  have nq78 : s_ ≠ b_77 := Nat.ne_of_lt (Nat.lt_of_lt_of_le E_s.lt ob_77)
  have nq79 : a ≠ b_77 := Nat.ne_of_lt (Nat.lt_of_lt_of_le V_a.lt ob_77)
  have oo_77 : h0.size ≤ b_77 := Nat.le_trans (Keep.refl h0 [s_]).1 ob_77
  have c80 := E_s.keep K_77
  have c82 := F_c.keep K_77 nin0
  have c83 := F_v.keep K_77 nin0
  have c85 := V_a.keep K_77 nin0
  have c86 := own_sta_keep S_cp K_77 own_ns0
  have hz77 : n0 ≤ T77.heap.size := Nat.le_trans Z0 K_77.1
  have K77 := Keep.trans (Keep.refl h0 [s_]) K_77 all0
  refine own_go (T' := T77) (g' := (mkF m 39 #[rv s_, rv a, iv (0 : Int32), iv (2 : Int32), .val .null, .unset] [(.ref b_77)])) (st77) ?_
  refine own_go (T' := T77) (g' := (mkF m 41 #[rv s_, rv a, iv (0 : Int32), iv (2 : Int32), .val .null, rv b_77] [])) (fun t k => XS.astore X77.here hx rfl (hb hby own_d_jdk_42_method_149_code_39) rfl rfl (l' := #[rv s_, rv a, iv (0 : Int32), iv (2 : Int32), .val .null, rv b_77]) rfl k) ?_
  refine own_go (T' := T77) (g' := (mkF m 42 #[rv s_, rv a, iv (0 : Int32), iv (2 : Int32), .val .null, rv b_77] [(.ref s_)])) (fun t k => XS.aloadN X77.here hx rfl (hb hby own_d_jdk_42_method_149_code_41) rfl rfl k) ?_
  refine own_go (T' := T77) (g' := (mkF m 44 #[rv s_, rv a, iv (0 : Int32), iv (2 : Int32), .val .null, rv b_77] [(.ref b_77), (.ref s_)])) (fun t k => XS.aload X77.here hx rfl (hb hby own_d_jdk_42_method_149_code_42) rfl rfl k) ?_
  refine own_go (T' := T77) (g' := (mkF m 45 #[rv s_, rv a, iv (0 : Int32), iv (2 : Int32), .val .null, rv b_77] [(.int (2 : Int32)), (.ref b_77), (.ref s_)])) (fun t k => XS.iloadN X77.here hx rfl (hb hby own_d_jdk_42_method_149_code_44) rfl k) ?_
  obtain ⟨_, _, ⟨T87, L87, k87, n87⟩, -, X87, ⟨Lc87, hQ87, l87, y87, z87⟩, st87⟩ := Jvm.LawKit.callS X77 hx (y := (⟨"java/lang/StringUTF16", "coderFromArrayLen", "([BI)B"⟩ : MethodName)) hown (mvT hZ (hw _ (List.mem_of_getElem? (i := 31) rfl))) (mvT hZ (hw _ (List.mem_of_getElem? (i := 32) rfl))) (mvT hZ (hw _ (List.mem_of_getElem? (i := 25) rfl))) (mvT hZ (hw _ (List.mem_of_getElem? (i := 33) rfl))) (by decide) (backOf (W := 1) (own_rco_2 l Z a0 hw [] b_77 k_77 c0 c1 T77.heap n0 hz77 V_77) hZ (hw _ (List.mem_of_getElem? (i := 33) rfl)) (hw _ (List.mem_of_getElem? (i := 25) rfl)) (by decide) (by decide)) (g := (mkF m 45 #[rv s_, rv a, iv (0 : Int32), iv (2 : Int32), .val .null, rv b_77] [(.int (2 : Int32)), (.ref b_77), (.ref s_)])) rfl (by rw [hml]; rfl) (argsL := [(.ref b_77), (.int (2 : Int32))]) (rest := [(.ref s_)]) (lenOf own_pd2 rfl) rfl (by show 2 * 0 + _ ≤ _; exact Nat.le_of_eq rfl) (hb hby own_d_jdk_42_method_149_code_45) (fun _ _ => ⟨rfl, rfl, (by decide : 1 + 0 ≤ _), (by decide : 2 + 0 ≤ _)⟩)
  dsimp only [Pt.U, Pt.locs, Pt.cells, Pt.slots] at X87 l87 y87 z87 st87 hQ87
  subst l87 y87 z87
  obtain ⟨rfl, rfl, e87⟩ := hQ87
  have E87q : T87.heap = T77.heap := e87
  have N87 := Fr.app N77 (Fr.nil n0)
  refine own_go (T' := T87) (g' := (mkF m 48 #[rv s_, rv a, iv (0 : Int32), iv (2 : Int32), .val .null, rv b_77] [(.int (0 : Int32)), (.ref s_)])) (st87) ?_
  obtain ⟨T88, h88, X88, e88, W88, st88⟩ := putF X87 hx hZ hown (host := "") (Or.inl (hw _ (List.mem_of_getElem? (i := 34) rfl))) Via.refl E87q c82 c80 (Or.inr ⟨(hw _ (List.mem_of_getElem? (i := 35) rfl)), rfl, hnm⟩) (hw _ (List.mem_of_getElem? (i := 9) rfl)) (ty := .byte) (by decide) rfl rfl (g := (mkF m 48 #[rv s_, rv a, iv (0 : Int32), iv (2 : Int32), .val .null, rv b_77] [(.int (0 : Int32)), (.ref s_)])) rfl rfl (hb hby own_d_jdk_42_method_149_code_48)
  have hz88 : n0 ≤ h88.size := Nat.le_trans hz77 (Keep.of_wr W88).1
  have N88 := Fr.snoc X88 N87 g_s
  have K88 := K77.wr W88 (Or.inl (List.mem_of_getElem? (i := 0) rfl))
  have c89 := c80.wr W88
  have c90 := c82.same W88
  have c91 := c83.other W88 (Or.inr (slot_ne (Or.inr (hw _ (List.mem_of_getElem? (i := 37) rfl))) (Or.inr (hw _ (List.mem_of_getElem? (i := 35) rfl))) (by decide) (t := (.array .byte)) (t' := .byte) (by decide) (by decide)))
  have c92 := c85.other W88 n_as
  have c93 := c86.wr W88
  have c94 := V_77.other W88 (Ne.symm nq78)
  have c95 := B_77.wr W88
  refine own_go (T' := T88) (g' := (mkF m 51 #[rv s_, rv a, iv (0 : Int32), iv (2 : Int32), .val .null, rv b_77] [])) (st88) ?_
  refine own_go (T' := T88) (g' := (mkF m 52 #[rv s_, rv a, iv (0 : Int32), iv (2 : Int32), .val .null, rv b_77] [(.ref s_)])) (fun t k => XS.aloadN X88.here hx rfl (hb hby own_d_jdk_42_method_149_code_51) rfl rfl k) ?_
  refine own_go (T' := T88) (g' := (mkF m 54 #[rv s_, rv a, iv (0 : Int32), iv (2 : Int32), .val .null, rv b_77] [(.ref b_77), (.ref s_)])) (fun t k => XS.aload X88.here hx rfl (hb hby own_d_jdk_42_method_149_code_52) rfl rfl k) ?_
  obtain ⟨T96, h96, X96, e96, W96, st96⟩ := putF X88 hx hZ hown (host := "") (Or.inl (hw _ (List.mem_of_getElem? (i := 36) rfl))) Via.refl e88 c91 c89 (Or.inr ⟨(hw _ (List.mem_of_getElem? (i := 37) rfl)), rfl, hnm⟩) (hw _ (List.mem_of_getElem? (i := 9) rfl)) (ty := (.array .byte)) (by decide) rfl rfl (g := (mkF m 54 #[rv s_, rv a, iv (0 : Int32), iv (2 : Int32), .val .null, rv b_77] [(.ref b_77), (.ref s_)])) rfl rfl (hb hby own_d_jdk_42_method_149_code_54)
  have hz96 : n0 ≤ h96.size := Nat.le_trans hz88 (Keep.of_wr W96).1
  have N96 := Fr.snoc X96 N88 g_s
  have K96 := K88.wr W96 (Or.inl (List.mem_of_getElem? (i := 0) rfl))
  have c97 := c89.wr W96
  have c98 := c90.other W96 (Or.inr (slot_ne (Or.inr (hw _ (List.mem_of_getElem? (i := 35) rfl))) (Or.inr (hw _ (List.mem_of_getElem? (i := 37) rfl))) (by decide) (t := .byte) (t' := (.array .byte)) (by decide) (by decide)))
  have c99 := c91.same W96
  have c100 := c92.other W96 n_as
  have c101 := c93.wr W96
  have c102 := c94.other W96 (Ne.symm nq78)
  have c103 := c95.wr W96
  refine own_go (T' := T96) (g' := (mkF m 57 #[rv s_, rv a, iv (0 : Int32), iv (2 : Int32), .val .null, rv b_77] [])) (st96) ?_
  exact own_ret0 X96 hlk hx Bd.returns (hb hby own_d_jdk_42_method_149_code_57) (by rw [e96]; exact ⟨b_77, _, rfl, N96, oo_77, K96, c97, c98, c99, c102, c103⟩) (by decide) (by decide)

def Q_own_rsi_2 (Z : State) (s : Addr) (c0 c1 : Int32) (h0 : Heap) (n0 : Nat) (v : Option Value) (h : Heap) (L : List Loc) : Prop := ∃ (b : Addr) (kb : ClassId), v = none ∧ Fr n0 L ∧ h0.size ≤ b ∧ Keep h0 h [s] ∧ Exa Z h s "java/lang/String" ∧ Fld Z h s "java/lang/String" "coder" "B" (.int 0) ∧ Fld Z h s "java/lang/String" "value" "[B" (.ref b) ∧ Arv Z h b kb .byte (2 : Int32) [(.int c0), (.int c1)] (.int (0 : Int32)) ∧ Exa Z h b "[B"
set_option maxRecDepth 65536 in
set_option maxHeartbeats 40000000 in
theorem own_rsi_2 (l : Launch) (Z : State) (a0 : Array Value) (hw : ∀ d ∈ tables_1, d.before a0 Z = true) (ws : List Jvm.Cond) (s_ a : Addr) (ka : ClassId) (cp : Int32) (c0 c1 : Int32) (h0 : Heap) (n0 : Nat) (Z0 : n0 ≤ h0.size) (E_s : Exa Z h0 s_ "java/lang/String") (g_s : n0 ≤ s_) (F_c : Fld Z h0 s_ "java/lang/String" "coder" "B" (.int 0)) (F_v : Fld Z h0 s_ "java/lang/String" "value" "[B" .null) (V_a : Arv Z h0 a ka .char (2 : Int32) [(.int c0), (.int c1)] (.int (0 : Int32))) (n_as : a ≠ s_) (S_cp : Sta Z h0 "java/lang/String" "COMPACT_STRINGS" "Z" (.int cp)) (hcp : ¬ cp = 0) (q0 : own_C c0) (q1 : own_C c1) :
    MetFree l (⟨"java/lang/String", "<init>", "([C)V"⟩ : MethodName) (head1 (Jvm.Cond.code (⟨"java/lang/String", "<init>", "([C)V"⟩ : MethodName) jdk_42_method_3_code 2 none :: ws) ({ frames := 3, cells := 1, slots := 2, locals := 52 } : Room)) (fun au Uu => au = #[(.ref s_), (.ref a)] ∧ Z.Warmed39 Uu.vm ∧ Uu.heap = h0) (fun _ _ _ _ _ => True) (fun _ Uu ou Uw => ∃ vu Lu, ou = .returned vu ∧ Q_own_rsi_2 Z s_ c0 c1 h0 n0 vu Uw.heap Lu ∧ FrameEnd Uu ou Uw Lu ({ frames := 3, cells := 1, slots := 2, locals := 52 } : Room).cells ({ frames := 3, cells := 1, slots := 2, locals := 52 } : Room).slots) := by
  refine MetFree.of_bodySF (plainFor_of_name (by first | (simp [plainName, overriddenIn]; done) | decide +kernel)) hisR ?_
  intro p e s m args below meth c s₁ Bd hml0 hP hK
  obtain ⟨rfl, hZ, hh⟩ := hP
  have hx := Bd.exec
  have hby := Bd.bytes
  have hlk := Bd.notSynchronized
  have hml : c.maxLocals = 2 := hml0
  have hown : s.vm.findClass "java/lang/String" = some m.cls := findClass_of_methodNamed Bd.named
  have hnm := (name_of_methodNamed Bd.named Bd.method).1
  have X0 : Stand p l e ({ frames := 3, cells := 1, slots := 2, locals := 52 } : Room) s m #[(.ref s_), (.ref a)] below meth c s₁ [] 0 0 := Stand.of_body Bd
  have e0 : s₁.heap = h0 := by rw [← hh, Bd.state]; rfl
  have N0 := Fr.nil n0
  show own_Ends p e below s₁ (entryFrame m #[(.ref s_), (.ref a)] 2) (fun ou Uw => ∃ vu Lu, ou = .returned vu ∧ Q_own_rsi_2 Z s_ c0 c1 h0 n0 vu Uw.heap Lu ∧ FrameEnd s ou Uw Lu ({ frames := 3, cells := 1, slots := 2, locals := 52 } : Room).cells ({ frames := 3, cells := 1, slots := 2, locals := 52 } : Room).slots)
  refine own_start (g' := (mkF m 0 #[rv s_, rv a] [])) (by first | (simp [entryFrame, mkF, argsToLocals, Value.category, iv, rv]; done) | rfl) ?_
  refine own_go (T' := s₁) (g' := (mkF m 1 #[rv s_, rv a] [(.ref s_)])) (fun t k => XS.aloadN X0.here hx rfl (hb hby own_d_jdk_42_method_3_code_0) rfl rfl k) ?_
  refine own_go (T' := s₁) (g' := (mkF m 2 #[rv s_, rv a] [(.ref a), (.ref s_)])) (fun t k => XS.aloadN X0.here hx rfl (hb hby own_d_jdk_42_method_3_code_1) rfl rfl k) ?_
  refine own_go (T' := s₁) (g' := (mkF m 3 #[rv s_, rv a] [(.int (0 : Int32)), (.ref a), (.ref s_)])) (fun t k => XS.iconst X0.here hx rfl (hb hby own_d_jdk_42_method_3_code_2) k) ?_
  refine own_go (T' := s₁) (g' := (mkF m 4 #[rv s_, rv a] [(.ref a), (.int (0 : Int32)), (.ref a), (.ref s_)])) (fun t k => XS.aloadN X0.here hx rfl (hb hby own_d_jdk_42_method_3_code_3) rfl rfl k) ?_
  obtain ⟨cl104, Ar104, -, Sz104, Nn104, -, -⟩ := id V_a
  refine own_go (T' := s₁) (g' := (mkF m 5 #[rv s_, rv a] [(.int (2 : Int32)), (.int (0 : Int32)), (.ref a), (.ref s_)])) (fun t k => X0.arraylength hx (by rw [e0]; exact Ar104.1) (State.isArrayOf_alike hZ.alike Ar104.2.1) (g := (mkF m 4 #[rv s_, rv a] [(.ref a), (.int (0 : Int32)), (.ref a), (.ref s_)])) rfl rfl (hb hby own_d_jdk_42_method_3_code_4) _ (by rw [len_of Sz104 Nn104]; exact k)) ?_
  refine own_go (T' := s₁) (g' := (mkF m 6 #[rv s_, rv a] [.null, (.int (2 : Int32)), (.int (0 : Int32)), (.ref a), (.ref s_)])) (fun t k => XS.aconstNull X0.here hx rfl (hb hby own_d_jdk_42_method_3_code_5) k) ?_
  obtain ⟨_, _, ⟨T105, L105, k105, n105⟩, -, X105, ⟨Lc105, hQ105, l105, y105, z105⟩, st105⟩ := X0.specialBack hx (y := (⟨"java/lang/String", "<init>", "([CIILjava/lang/Void;)V"⟩ : MethodName)) rfl hown (mvT hZ (hw _ (List.mem_of_getElem? (i := 15) rfl))) (mvT hZ (hw _ (List.mem_of_getElem? (i := 16) rfl))) (mvT hZ (hw _ (List.mem_of_getElem? (i := 18) rfl))) (by decide) (backOf (W := 0) (own_rsv_2 l Z a0 hw [] s_ a ka cp c0 c1 h0 n0 Z0 E_s g_s F_c F_v V_a n_as S_cp hcp q0 q1) hZ (hw _ (List.mem_of_getElem? (i := 18) rfl)) (hw _ (List.mem_of_getElem? (i := 10) rfl)) (by decide) (by decide)) (g := (mkF m 6 #[rv s_, rv a] [.null, (.int (2 : Int32)), (.int (0 : Int32)), (.ref a), (.ref s_)])) rfl (by rw [hml]; rfl) (Steps.refl _) (a := s_) (argsL := [(.ref a), (.int (0 : Int32)), (.int (2 : Int32)), .null]) (rest := []) (lenOf own_pd3 rfl) rfl (by show 2 * 0 + _ ≤ _; exact Nat.le_of_eq rfl) (hb hby own_d_jdk_42_method_3_code_6) (fun _ _ => ⟨rfl, e0, (by decide : 0 + 1 ≤ _), (by decide : 0 + 2 ≤ _)⟩)
  dsimp only [Pt.U, Pt.locs, Pt.cells, Pt.slots] at X105 l105 y105 z105 st105 hQ105
  subst l105 y105 z105
  obtain ⟨b_105, k_105, rfl, N105q, ob_105, K_105, e_105, c_105, v_105, V_105, B_105⟩ := hQ105
  have N105 := Fr.app N0 N105q
  have nq106 : s_ ≠ b_105 := Nat.ne_of_lt (Nat.lt_of_lt_of_le E_s.lt ob_105)
  have nq107 : a ≠ b_105 := Nat.ne_of_lt (Nat.lt_of_lt_of_le V_a.lt ob_105)
  have oo_105 : h0.size ≤ b_105 := Nat.le_trans (Keep.refl h0 [s_]).1 ob_105
  have c108 := E_s.keep K_105
  have c113 := V_a.keep K_105 (ninS n_as nin0)
  have c114 := own_sta_keep S_cp K_105 (own_nsS (own_nse E_s) own_ns0)
  have hz105 : n0 ≤ T105.heap.size := Nat.le_trans Z0 K_105.1
  have K105 := Keep.trans (Keep.refl h0 [s_]) K_105 (allS (P := fun x => x ∈ _ ∨ h0.size ≤ x) (Or.inl (List.mem_of_getElem? (i := 0) rfl)) all0)
  refine own_go (T' := T105) (g' := (mkF m 9 #[rv s_, rv a] [])) (fun t k => st105.trans k) ?_
  exact own_ret0 X105 hlk hx Bd.returns (hb hby own_d_jdk_42_method_3_code_9) (by exact ⟨b_105, _, rfl, N105, oo_105, K105, e_105, c_105, v_105, V_105, B_105⟩) (by decide) (by decide)

def Q_own_rc5_3 (Z : State) (b : Addr) (kb : ClassId) (c0 c1 c2 : Int32) (h0 : Heap) (n0 : Nat) (v : Option Value) (h : Heap) (L : List Loc) : Prop := v = some (.int (3 : Int32)) ∧ Fr n0 L ∧ Keep h0 h [b] ∧ Arv Z h b kb .byte (3 : Int32) [(.int c0), (.int c1), (.int c2)] (.int (0 : Int32))
set_option maxRecDepth 65536 in
set_option maxHeartbeats 40000000 in
theorem own_rc5_3 (l : Launch) (Z : State) (a0 : Array Value) (hw : ∀ d ∈ tables_1, d.before a0 Z = true) (ws : List Jvm.Cond) (a b : Addr) (ka kb : ClassId) (c0 c1 c2 : Int32) (h0 : Heap) (n0 : Nat) (Z0 : n0 ≤ h0.size) (V_a : Arv Z h0 a ka .char (3 : Int32) [(.int c0), (.int c1), (.int c2)] (.int (0 : Int32))) (V_b : Arv Z h0 b kb .byte (3 : Int32) [(.int (0 : Int32)), (.int (0 : Int32)), (.int (0 : Int32))] (.int (0 : Int32))) (g_b : n0 ≤ b) (n_ab : a ≠ b) (q0 : own_C c0) (q1 : own_C c1) (q2 : own_C c2) :
    MetFree l (⟨"java/lang/StringUTF16", "compress", "([CI[BII)I"⟩ : MethodName) (head1 (Jvm.Cond.code (⟨"java/lang/StringUTF16", "compress", "([CI[BII)I"⟩ : MethodName) jdk_52_method_21_code 7 (some .int) :: ws) ({ frames := 0, cells := 0, slots := 0, locals := 0 } : Room)) (fun au Uu => au = #[(.ref a), (.int (0 : Int32)), (.ref b), (.int (0 : Int32)), (.int (3 : Int32))] ∧ Z.Warmed39 Uu.vm ∧ Uu.heap = h0) (fun _ _ _ _ _ => True) (fun _ Uu ou Uw => ∃ vu Lu, ou = .returned vu ∧ Q_own_rc5_3 Z b kb c0 c1 c2 h0 n0 vu Uw.heap Lu ∧ FrameEnd Uu ou Uw Lu ({ frames := 0, cells := 0, slots := 0, locals := 0 } : Room).cells ({ frames := 0, cells := 0, slots := 0, locals := 0 } : Room).slots) := by
  refine MetFree.of_bodySF (plainFor_of_name (by first | (simp [plainName, overriddenIn]; done) | decide +kernel)) hisR ?_
  intro p e s m args below meth c s₁ Bd hml0 hP hK
  obtain ⟨rfl, hZ, hh⟩ := hP
  have hx := Bd.exec
  have hby := Bd.bytes
  have hlk := Bd.notSynchronized
  have hml : c.maxLocals = 7 := hml0
  have hown : s.vm.findClass "java/lang/StringUTF16" = some m.cls := findClass_of_methodNamed Bd.named
  have hnm := (name_of_methodNamed Bd.named Bd.method).1
  have X0 : Stand p l e ({ frames := 0, cells := 0, slots := 0, locals := 0 } : Room) s m #[(.ref a), (.int (0 : Int32)), (.ref b), (.int (0 : Int32)), (.int (3 : Int32))] below meth c s₁ [] 0 0 := Stand.of_body Bd
  have e0 : s₁.heap = h0 := by rw [← hh, Bd.state]; rfl
  have N0 := Fr.nil n0
  show own_Ends p e below s₁ (entryFrame m #[(.ref a), (.int (0 : Int32)), (.ref b), (.int (0 : Int32)), (.int (3 : Int32))] 7) (fun ou Uw => ∃ vu Lu, ou = .returned vu ∧ Q_own_rc5_3 Z b kb c0 c1 c2 h0 n0 vu Uw.heap Lu ∧ FrameEnd s ou Uw Lu ({ frames := 0, cells := 0, slots := 0, locals := 0 } : Room).cells ({ frames := 0, cells := 0, slots := 0, locals := 0 } : Room).slots)
  refine own_start (g' := (mkF m 0 #[rv a, iv (0 : Int32), rv b, iv (0 : Int32), iv (3 : Int32), .unset, .unset] [])) (by first | (simp [entryFrame, mkF, argsToLocals, Value.category, iv, rv]; done) | rfl) ?_
  refine own_go (T' := s₁) (g' := (mkF m 1 #[rv a, iv (0 : Int32), rv b, iv (0 : Int32), iv (3 : Int32), .unset, .unset] [(.int (0 : Int32))])) (fun t k => XS.iconst X0.here hx rfl (hb hby own_d_jdk_52_method_21_code_0) k) ?_
  refine own_go (T' := s₁) (g' := (mkF m 3 #[rv a, iv (0 : Int32), rv b, iv (0 : Int32), iv (3 : Int32), iv (0 : Int32), .unset] [])) (fun t k => XS.istore X0.here hx rfl (hb hby own_d_jdk_52_method_21_code_1) rfl (l' := #[rv a, iv (0 : Int32), rv b, iv (0 : Int32), iv (3 : Int32), iv (0 : Int32), .unset]) rfl k) ?_
  refine own_go (T' := s₁) (g' := (mkF m 5 #[rv a, iv (0 : Int32), rv b, iv (0 : Int32), iv (3 : Int32), iv (0 : Int32), .unset] [(.int (0 : Int32))])) (fun t k => XS.iload X0.here hx rfl (hb hby own_d_jdk_52_method_21_code_3) rfl k) ?_
  refine own_go (T' := s₁) (g' := (mkF m 7 #[rv a, iv (0 : Int32), rv b, iv (0 : Int32), iv (3 : Int32), iv (0 : Int32), .unset] [(.int (3 : Int32)), (.int (0 : Int32))])) (fun t k => XS.iload X0.here hx rfl (hb hby own_d_jdk_52_method_21_code_5) rfl k) ?_
  refine own_go (T' := s₁) (g' := (mkF m 10 #[rv a, iv (0 : Int32), rv b, iv (0 : Int32), iv (3 : Int32), iv (0 : Int32), .unset] [])) (fun t k => XS.icmpNo X0.here hx rfl (hb hby own_d_jdk_52_method_21_code_7) rfl (tlt (by decide : ((0 : Int32) < (3 : Int32)))).2.1 k) ?_
  refine own_go (T' := s₁) (g' := (mkF m 11 #[rv a, iv (0 : Int32), rv b, iv (0 : Int32), iv (3 : Int32), iv (0 : Int32), .unset] [(.ref a)])) (fun t k => XS.aloadN X0.here hx rfl (hb hby own_d_jdk_52_method_21_code_10) rfl rfl k) ?_
  refine own_go (T' := s₁) (g' := (mkF m 12 #[rv a, iv (0 : Int32), rv b, iv (0 : Int32), iv (3 : Int32), iv (0 : Int32), .unset] [(.int (0 : Int32)), (.ref a)])) (fun t k => XS.iloadN X0.here hx rfl (hb hby own_d_jdk_52_method_21_code_11) rfl k) ?_
  obtain ⟨cl115, Ar115, -, Sz115, Nn115, Ha115, -⟩ := id V_a
  have hin115 : ¬ ((0 : Int32) < 0 ∨ cl115.slots.size ≤ ((0 : Int32)).toNatClampNeg) := inb_of Sz115 ⟨by decide, by decide⟩
  have hat115 : cl115.slots[((0 : Int32)).toNatClampNeg]? = some (.int c0) := Ha115.at hin115 rfl
  refine own_go (T' := s₁) (g' := (mkF m 13 #[rv a, iv (0 : Int32), rv b, iv (0 : Int32), iv (3 : Int32), iv (0 : Int32), .unset] [(.int c0)])) (fun t k => X0.caload hx (j := (0 : Int32)) (v := (.int c0)) (by rw [e0]; exact Ar115.1) (State.isArrayOf_alike hZ.alike Ar115.2.1) Ar115.2.2 hin115 hat115 (g := (mkF m 12 #[rv a, iv (0 : Int32), rv b, iv (0 : Int32), iv (3 : Int32), iv (0 : Int32), .unset] [(.int (0 : Int32)), (.ref a)])) rfl rfl (hb hby own_d_jdk_52_method_21_code_12) _ k) ?_
  refine own_go (T' := s₁) (g' := (mkF m 15 #[rv a, iv (0 : Int32), rv b, iv (0 : Int32), iv (3 : Int32), iv (0 : Int32), iv c0] [])) (fun t k => XS.istore X0.here hx rfl (hb hby own_d_jdk_52_method_21_code_13) rfl (l' := #[rv a, iv (0 : Int32), rv b, iv (0 : Int32), iv (3 : Int32), iv (0 : Int32), iv c0]) rfl k) ?_
  refine own_go (T' := s₁) (g' := (mkF m 17 #[rv a, iv (0 : Int32), rv b, iv (0 : Int32), iv (3 : Int32), iv (0 : Int32), iv c0] [(.int c0)])) (fun t k => XS.iload X0.here hx rfl (hb hby own_d_jdk_52_method_21_code_15) rfl k) ?_
  refine own_go (T' := s₁) (g' := (mkF m 20 #[rv a, iv (0 : Int32), rv b, iv (0 : Int32), iv (3 : Int32), iv (0 : Int32), iv c0] [(.int (255 : Int32)), (.int c0)])) (fun t k => XS.sipush X0.here hx rfl (hb hby own_d_jdk_52_method_21_code_17) k) ?_
  refine own_go (T' := s₁) (g' := (mkF m 26 #[rv a, iv (0 : Int32), rv b, iv (0 : Int32), iv (3 : Int32), iv (0 : Int32), iv c0] [])) (fun t k => XS.icmpYes X0.here hx rfl (pc0 := 20) (pc' := 26) rfl (hb hby own_d_jdk_52_method_21_code_20) rfl (flt (own_c255 q0 : ¬ ((255 : Int32) < c0))).2.2.2 (by decide) (by decide) k) ?_
  refine own_go (T' := s₁) (g' := (mkF m 27 #[rv a, iv (0 : Int32), rv b, iv (0 : Int32), iv (3 : Int32), iv (0 : Int32), iv c0] [(.ref b)])) (fun t k => XS.aloadN X0.here hx rfl (hb hby own_d_jdk_52_method_21_code_26) rfl rfl k) ?_
  refine own_go (T' := s₁) (g' := (mkF m 28 #[rv a, iv (0 : Int32), rv b, iv (0 : Int32), iv (3 : Int32), iv (0 : Int32), iv c0] [(.int (0 : Int32)), (.ref b)])) (fun t k => XS.iloadN X0.here hx rfl (hb hby own_d_jdk_52_method_21_code_27) rfl k) ?_
  refine own_go (T' := s₁) (g' := (mkF m 30 #[rv a, iv (0 : Int32), rv b, iv (0 : Int32), iv (3 : Int32), iv (0 : Int32), iv c0] [(.int c0), (.int (0 : Int32)), (.ref b)])) (fun t k => XS.iload X0.here hx rfl (hb hby own_d_jdk_52_method_21_code_28) rfl k) ?_
  refine own_go (T' := s₁) (g' := (mkF m 31 #[rv a, iv (0 : Int32), rv b, iv (0 : Int32), iv (3 : Int32), iv (0 : Int32), iv c0] [(.int (c0.toInt8.toInt32)), (.int (0 : Int32)), (.ref b)])) (fun t k => XS.i2b X0.here hx rfl (hb hby own_d_jdk_52_method_21_code_30) rfl k) ?_
  obtain ⟨cl116, Ar116, q116, Sz116, Nn116, Ha116, Ga116⟩ := id V_b
  have hin116 : ¬ ((0 : Int32) < 0 ∨ cl116.slots.size ≤ ((0 : Int32)).toNatClampNeg) := inb_of Sz116 ⟨by decide, by decide⟩
  obtain ⟨T116, h116, X116, e116, W116, st116⟩ := stB X0 hx hZ e0 Ar116 (j := (0 : Int32)) hin116 (g := (mkF m 31 #[rv a, iv (0 : Int32), rv b, iv (0 : Int32), iv (3 : Int32), iv (0 : Int32), iv c0] [(.int (c0.toInt8.toInt32)), (.int (0 : Int32)), (.ref b)])) rfl rfl (hb hby own_d_jdk_52_method_21_code_31)
  rw [own_nb2 q0] at W116
  have hz116 : n0 ≤ h116.size := Nat.le_trans Z0 (Keep.of_wr W116).1
  have N116 := Fr.snoc X116 N0 g_b
  have K116 := (Keep.refl h0 [b]).wr W116 (Or.inl (List.mem_of_getElem? (i := 0) rfl))
  have c117 := V_a.other W116 n_ab
  have V116 : Arv Z h116 b kb .byte (3 : Int32) [(.int c0), (.int (0 : Int32)), (.int (0 : Int32))] (.int (0 : Int32)) := Arv.set Ar116 q116 Sz116 Nn116 Ha116 Ga116 (own_fitb q0) W116 0 rfl (Nat.le_of_ble_eq_true rfl)
  refine own_go (T' := T116) (g' := (mkF m 32 #[rv a, iv (0 : Int32), rv b, iv (0 : Int32), iv (3 : Int32), iv (0 : Int32), iv c0] [])) (st116) ?_
  refine own_go (T' := T116) (g' := (mkF m 35 #[rv a, iv (1 : Int32), rv b, iv (0 : Int32), iv (3 : Int32), iv (0 : Int32), iv c0] [])) (fun t k => XS.iinc X116.here hx rfl (hb hby own_d_jdk_52_method_21_code_32) rfl (l' := #[rv a, iv (1 : Int32), rv b, iv (0 : Int32), iv (3 : Int32), iv (0 : Int32), iv c0]) rfl k) ?_
  refine own_go (T' := T116) (g' := (mkF m 38 #[rv a, iv (1 : Int32), rv b, iv (1 : Int32), iv (3 : Int32), iv (0 : Int32), iv c0] [])) (fun t k => XS.iinc X116.here hx rfl (hb hby own_d_jdk_52_method_21_code_35) rfl (l' := #[rv a, iv (1 : Int32), rv b, iv (1 : Int32), iv (3 : Int32), iv (0 : Int32), iv c0]) rfl k) ?_
  refine own_go (T' := T116) (g' := (mkF m 41 #[rv a, iv (1 : Int32), rv b, iv (1 : Int32), iv (3 : Int32), iv (1 : Int32), iv c0] [])) (fun t k => XS.iinc X116.here hx rfl (hb hby own_d_jdk_52_method_21_code_38) rfl (l' := #[rv a, iv (1 : Int32), rv b, iv (1 : Int32), iv (3 : Int32), iv (1 : Int32), iv c0]) rfl k) ?_
  refine own_go (T' := T116) (g' := (mkF m 3 #[rv a, iv (1 : Int32), rv b, iv (1 : Int32), iv (3 : Int32), iv (1 : Int32), iv c0] [])) (fun t k => XS.goto X116.here hx rfl (pc0 := 41) (pc' := 3) rfl (hb hby own_d_jdk_52_method_21_code_41) (by decide) (by decide) k) ?_
  refine own_go (T' := T116) (g' := (mkF m 5 #[rv a, iv (1 : Int32), rv b, iv (1 : Int32), iv (3 : Int32), iv (1 : Int32), iv c0] [(.int (1 : Int32))])) (fun t k => XS.iload X116.here hx rfl (hb hby own_d_jdk_52_method_21_code_3) rfl k) ?_
  refine own_go (T' := T116) (g' := (mkF m 7 #[rv a, iv (1 : Int32), rv b, iv (1 : Int32), iv (3 : Int32), iv (1 : Int32), iv c0] [(.int (3 : Int32)), (.int (1 : Int32))])) (fun t k => XS.iload X116.here hx rfl (hb hby own_d_jdk_52_method_21_code_5) rfl k) ?_
  refine own_go (T' := T116) (g' := (mkF m 10 #[rv a, iv (1 : Int32), rv b, iv (1 : Int32), iv (3 : Int32), iv (1 : Int32), iv c0] [])) (fun t k => XS.icmpNo X116.here hx rfl (hb hby own_d_jdk_52_method_21_code_7) rfl (tlt (by decide : ((1 : Int32) < (3 : Int32)))).2.1 k) ?_
  refine own_go (T' := T116) (g' := (mkF m 11 #[rv a, iv (1 : Int32), rv b, iv (1 : Int32), iv (3 : Int32), iv (1 : Int32), iv c0] [(.ref a)])) (fun t k => XS.aloadN X116.here hx rfl (hb hby own_d_jdk_52_method_21_code_10) rfl rfl k) ?_
  refine own_go (T' := T116) (g' := (mkF m 12 #[rv a, iv (1 : Int32), rv b, iv (1 : Int32), iv (3 : Int32), iv (1 : Int32), iv c0] [(.int (1 : Int32)), (.ref a)])) (fun t k => XS.iloadN X116.here hx rfl (hb hby own_d_jdk_52_method_21_code_11) rfl k) ?_
  obtain ⟨cl119, Ar119, -, Sz119, Nn119, Ha119, -⟩ := id c117
  have hin119 : ¬ ((1 : Int32) < 0 ∨ cl119.slots.size ≤ ((1 : Int32)).toNatClampNeg) := inb_of Sz119 ⟨by decide, by decide⟩
  have hat119 : cl119.slots[((1 : Int32)).toNatClampNeg]? = some (.int c1) := Ha119.at hin119 rfl
  refine own_go (T' := T116) (g' := (mkF m 13 #[rv a, iv (1 : Int32), rv b, iv (1 : Int32), iv (3 : Int32), iv (1 : Int32), iv c0] [(.int c1)])) (fun t k => X116.caload hx (j := (1 : Int32)) (v := (.int c1)) (by rw [e116]; exact Ar119.1) (State.isArrayOf_alike hZ.alike Ar119.2.1) Ar119.2.2 hin119 hat119 (g := (mkF m 12 #[rv a, iv (1 : Int32), rv b, iv (1 : Int32), iv (3 : Int32), iv (1 : Int32), iv c0] [(.int (1 : Int32)), (.ref a)])) rfl rfl (hb hby own_d_jdk_52_method_21_code_12) _ k) ?_
  refine own_go (T' := T116) (g' := (mkF m 15 #[rv a, iv (1 : Int32), rv b, iv (1 : Int32), iv (3 : Int32), iv (1 : Int32), iv c1] [])) (fun t k => XS.istore X116.here hx rfl (hb hby own_d_jdk_52_method_21_code_13) rfl (l' := #[rv a, iv (1 : Int32), rv b, iv (1 : Int32), iv (3 : Int32), iv (1 : Int32), iv c1]) rfl k) ?_
  refine own_go (T' := T116) (g' := (mkF m 17 #[rv a, iv (1 : Int32), rv b, iv (1 : Int32), iv (3 : Int32), iv (1 : Int32), iv c1] [(.int c1)])) (fun t k => XS.iload X116.here hx rfl (hb hby own_d_jdk_52_method_21_code_15) rfl k) ?_
  refine own_go (T' := T116) (g' := (mkF m 20 #[rv a, iv (1 : Int32), rv b, iv (1 : Int32), iv (3 : Int32), iv (1 : Int32), iv c1] [(.int (255 : Int32)), (.int c1)])) (fun t k => XS.sipush X116.here hx rfl (hb hby own_d_jdk_52_method_21_code_17) k) ?_
  refine own_go (T' := T116) (g' := (mkF m 26 #[rv a, iv (1 : Int32), rv b, iv (1 : Int32), iv (3 : Int32), iv (1 : Int32), iv c1] [])) (fun t k => XS.icmpYes X116.here hx rfl (pc0 := 20) (pc' := 26) rfl (hb hby own_d_jdk_52_method_21_code_20) rfl (flt (own_c255 q1 : ¬ ((255 : Int32) < c1))).2.2.2 (by decide) (by decide) k) ?_
  refine own_go (T' := T116) (g' := (mkF m 27 #[rv a, iv (1 : Int32), rv b, iv (1 : Int32), iv (3 : Int32), iv (1 : Int32), iv c1] [(.ref b)])) (fun t k => XS.aloadN X116.here hx rfl (hb hby own_d_jdk_52_method_21_code_26) rfl rfl k) ?_
  refine own_go (T' := T116) (g' := (mkF m 28 #[rv a, iv (1 : Int32), rv b, iv (1 : Int32), iv (3 : Int32), iv (1 : Int32), iv c1] [(.int (1 : Int32)), (.ref b)])) (fun t k => XS.iloadN X116.here hx rfl (hb hby own_d_jdk_52_method_21_code_27) rfl k) ?_
  refine own_go (T' := T116) (g' := (mkF m 30 #[rv a, iv (1 : Int32), rv b, iv (1 : Int32), iv (3 : Int32), iv (1 : Int32), iv c1] [(.int c1), (.int (1 : Int32)), (.ref b)])) (fun t k => XS.iload X116.here hx rfl (hb hby own_d_jdk_52_method_21_code_28) rfl k) ?_
  refine own_go (T' := T116) (g' := (mkF m 31 #[rv a, iv (1 : Int32), rv b, iv (1 : Int32), iv (3 : Int32), iv (1 : Int32), iv c1] [(.int (c1.toInt8.toInt32)), (.int (1 : Int32)), (.ref b)])) (fun t k => XS.i2b X116.here hx rfl (hb hby own_d_jdk_52_method_21_code_30) rfl k) ?_
  obtain ⟨cl120, Ar120, q120, Sz120, Nn120, Ha120, Ga120⟩ := id V116
  have hin120 : ¬ ((1 : Int32) < 0 ∨ cl120.slots.size ≤ ((1 : Int32)).toNatClampNeg) := inb_of Sz120 ⟨by decide, by decide⟩
  obtain ⟨T120, h120, X120, e120, W120, st120⟩ := stB X116 hx hZ e116 Ar120 (j := (1 : Int32)) hin120 (g := (mkF m 31 #[rv a, iv (1 : Int32), rv b, iv (1 : Int32), iv (3 : Int32), iv (1 : Int32), iv c1] [(.int (c1.toInt8.toInt32)), (.int (1 : Int32)), (.ref b)])) rfl rfl (hb hby own_d_jdk_52_method_21_code_31)
  rw [own_nb2 q1] at W120
  have hz120 : n0 ≤ h120.size := Nat.le_trans hz116 (Keep.of_wr W120).1
  have N120 := Fr.snoc X120 N116 g_b
  have K120 := K116.wr W120 (Or.inl (List.mem_of_getElem? (i := 0) rfl))
  have c121 := c117.other W120 n_ab
  have V120 : Arv Z h120 b kb .byte (3 : Int32) [(.int c0), (.int c1), (.int (0 : Int32))] (.int (0 : Int32)) := Arv.set Ar120 q120 Sz120 Nn120 Ha120 Ga120 (own_fitb q1) W120 1 rfl (Nat.le_of_ble_eq_true rfl)
  refine own_go (T' := T120) (g' := (mkF m 32 #[rv a, iv (1 : Int32), rv b, iv (1 : Int32), iv (3 : Int32), iv (1 : Int32), iv c1] [])) (st120) ?_
  refine own_go (T' := T120) (g' := (mkF m 35 #[rv a, iv (2 : Int32), rv b, iv (1 : Int32), iv (3 : Int32), iv (1 : Int32), iv c1] [])) (fun t k => XS.iinc X120.here hx rfl (hb hby own_d_jdk_52_method_21_code_32) rfl (l' := #[rv a, iv (2 : Int32), rv b, iv (1 : Int32), iv (3 : Int32), iv (1 : Int32), iv c1]) rfl k) ?_
  refine own_go (T' := T120) (g' := (mkF m 38 #[rv a, iv (2 : Int32), rv b, iv (2 : Int32), iv (3 : Int32), iv (1 : Int32), iv c1] [])) (fun t k => XS.iinc X120.here hx rfl (hb hby own_d_jdk_52_method_21_code_35) rfl (l' := #[rv a, iv (2 : Int32), rv b, iv (2 : Int32), iv (3 : Int32), iv (1 : Int32), iv c1]) rfl k) ?_
  refine own_go (T' := T120) (g' := (mkF m 41 #[rv a, iv (2 : Int32), rv b, iv (2 : Int32), iv (3 : Int32), iv (2 : Int32), iv c1] [])) (fun t k => XS.iinc X120.here hx rfl (hb hby own_d_jdk_52_method_21_code_38) rfl (l' := #[rv a, iv (2 : Int32), rv b, iv (2 : Int32), iv (3 : Int32), iv (2 : Int32), iv c1]) rfl k) ?_
  refine own_go (T' := T120) (g' := (mkF m 3 #[rv a, iv (2 : Int32), rv b, iv (2 : Int32), iv (3 : Int32), iv (2 : Int32), iv c1] [])) (fun t k => XS.goto X120.here hx rfl (pc0 := 41) (pc' := 3) rfl (hb hby own_d_jdk_52_method_21_code_41) (by decide) (by decide) k) ?_
  refine own_go (T' := T120) (g' := (mkF m 5 #[rv a, iv (2 : Int32), rv b, iv (2 : Int32), iv (3 : Int32), iv (2 : Int32), iv c1] [(.int (2 : Int32))])) (fun t k => XS.iload X120.here hx rfl (hb hby own_d_jdk_52_method_21_code_3) rfl k) ?_
  refine own_go (T' := T120) (g' := (mkF m 7 #[rv a, iv (2 : Int32), rv b, iv (2 : Int32), iv (3 : Int32), iv (2 : Int32), iv c1] [(.int (3 : Int32)), (.int (2 : Int32))])) (fun t k => XS.iload X120.here hx rfl (hb hby own_d_jdk_52_method_21_code_5) rfl k) ?_
  refine own_go (T' := T120) (g' := (mkF m 10 #[rv a, iv (2 : Int32), rv b, iv (2 : Int32), iv (3 : Int32), iv (2 : Int32), iv c1] [])) (fun t k => XS.icmpNo X120.here hx rfl (hb hby own_d_jdk_52_method_21_code_7) rfl (tlt (by decide : ((2 : Int32) < (3 : Int32)))).2.1 k) ?_
  refine own_go (T' := T120) (g' := (mkF m 11 #[rv a, iv (2 : Int32), rv b, iv (2 : Int32), iv (3 : Int32), iv (2 : Int32), iv c1] [(.ref a)])) (fun t k => XS.aloadN X120.here hx rfl (hb hby own_d_jdk_52_method_21_code_10) rfl rfl k) ?_
  refine own_go (T' := T120) (g' := (mkF m 12 #[rv a, iv (2 : Int32), rv b, iv (2 : Int32), iv (3 : Int32), iv (2 : Int32), iv c1] [(.int (2 : Int32)), (.ref a)])) (fun t k => XS.iloadN X120.here hx rfl (hb hby own_d_jdk_52_method_21_code_11) rfl k) ?_
  obtain ⟨cl123, Ar123, -, Sz123, Nn123, Ha123, -⟩ := id c121
  have hin123 : ¬ ((2 : Int32) < 0 ∨ cl123.slots.size ≤ ((2 : Int32)).toNatClampNeg) := inb_of Sz123 ⟨by decide, by decide⟩
  have hat123 : cl123.slots[((2 : Int32)).toNatClampNeg]? = some (.int c2) := Ha123.at hin123 rfl
  refine own_go (T' := T120) (g' := (mkF m 13 #[rv a, iv (2 : Int32), rv b, iv (2 : Int32), iv (3 : Int32), iv (2 : Int32), iv c1] [(.int c2)])) (fun t k => X120.caload hx (j := (2 : Int32)) (v := (.int c2)) (by rw [e120]; exact Ar123.1) (State.isArrayOf_alike hZ.alike Ar123.2.1) Ar123.2.2 hin123 hat123 (g := (mkF m 12 #[rv a, iv (2 : Int32), rv b, iv (2 : Int32), iv (3 : Int32), iv (2 : Int32), iv c1] [(.int (2 : Int32)), (.ref a)])) rfl rfl (hb hby own_d_jdk_52_method_21_code_12) _ k) ?_
  refine own_go (T' := T120) (g' := (mkF m 15 #[rv a, iv (2 : Int32), rv b, iv (2 : Int32), iv (3 : Int32), iv (2 : Int32), iv c2] [])) (fun t k => XS.istore X120.here hx rfl (hb hby own_d_jdk_52_method_21_code_13) rfl (l' := #[rv a, iv (2 : Int32), rv b, iv (2 : Int32), iv (3 : Int32), iv (2 : Int32), iv c2]) rfl k) ?_
  refine own_go (T' := T120) (g' := (mkF m 17 #[rv a, iv (2 : Int32), rv b, iv (2 : Int32), iv (3 : Int32), iv (2 : Int32), iv c2] [(.int c2)])) (fun t k => XS.iload X120.here hx rfl (hb hby own_d_jdk_52_method_21_code_15) rfl k) ?_
  refine own_go (T' := T120) (g' := (mkF m 20 #[rv a, iv (2 : Int32), rv b, iv (2 : Int32), iv (3 : Int32), iv (2 : Int32), iv c2] [(.int (255 : Int32)), (.int c2)])) (fun t k => XS.sipush X120.here hx rfl (hb hby own_d_jdk_52_method_21_code_17) k) ?_
  refine own_go (T' := T120) (g' := (mkF m 26 #[rv a, iv (2 : Int32), rv b, iv (2 : Int32), iv (3 : Int32), iv (2 : Int32), iv c2] [])) (fun t k => XS.icmpYes X120.here hx rfl (pc0 := 20) (pc' := 26) rfl (hb hby own_d_jdk_52_method_21_code_20) rfl (flt (own_c255 q2 : ¬ ((255 : Int32) < c2))).2.2.2 (by decide) (by decide) k) ?_
  refine own_go (T' := T120) (g' := (mkF m 27 #[rv a, iv (2 : Int32), rv b, iv (2 : Int32), iv (3 : Int32), iv (2 : Int32), iv c2] [(.ref b)])) (fun t k => XS.aloadN X120.here hx rfl (hb hby own_d_jdk_52_method_21_code_26) rfl rfl k) ?_
  refine own_go (T' := T120) (g' := (mkF m 28 #[rv a, iv (2 : Int32), rv b, iv (2 : Int32), iv (3 : Int32), iv (2 : Int32), iv c2] [(.int (2 : Int32)), (.ref b)])) (fun t k => XS.iloadN X120.here hx rfl (hb hby own_d_jdk_52_method_21_code_27) rfl k) ?_
  refine own_go (T' := T120) (g' := (mkF m 30 #[rv a, iv (2 : Int32), rv b, iv (2 : Int32), iv (3 : Int32), iv (2 : Int32), iv c2] [(.int c2), (.int (2 : Int32)), (.ref b)])) (fun t k => XS.iload X120.here hx rfl (hb hby own_d_jdk_52_method_21_code_28) rfl k) ?_
  refine own_go (T' := T120) (g' := (mkF m 31 #[rv a, iv (2 : Int32), rv b, iv (2 : Int32), iv (3 : Int32), iv (2 : Int32), iv c2] [(.int (c2.toInt8.toInt32)), (.int (2 : Int32)), (.ref b)])) (fun t k => XS.i2b X120.here hx rfl (hb hby own_d_jdk_52_method_21_code_30) rfl k) ?_
  obtain ⟨cl124, Ar124, q124, Sz124, Nn124, Ha124, Ga124⟩ := id V120
  have hin124 : ¬ ((2 : Int32) < 0 ∨ cl124.slots.size ≤ ((2 : Int32)).toNatClampNeg) := inb_of Sz124 ⟨by decide, by decide⟩
  obtain ⟨T124, h124, X124, e124, W124, st124⟩ := stB X120 hx hZ e120 Ar124 (j := (2 : Int32)) hin124 (g := (mkF m 31 #[rv a, iv (2 : Int32), rv b, iv (2 : Int32), iv (3 : Int32), iv (2 : Int32), iv c2] [(.int (c2.toInt8.toInt32)), (.int (2 : Int32)), (.ref b)])) rfl rfl (hb hby own_d_jdk_52_method_21_code_31)
  rw [own_nb2 q2] at W124
  have hz124 : n0 ≤ h124.size := Nat.le_trans hz120 (Keep.of_wr W124).1
  have N124 := Fr.snoc X124 N120 g_b
  have K124 := K120.wr W124 (Or.inl (List.mem_of_getElem? (i := 0) rfl))
  have c125 := c121.other W124 n_ab
  have V124 : Arv Z h124 b kb .byte (3 : Int32) [(.int c0), (.int c1), (.int c2)] (.int (0 : Int32)) := Arv.set Ar124 q124 Sz124 Nn124 Ha124 Ga124 (own_fitb q2) W124 2 rfl (Nat.le_of_ble_eq_true rfl)
  refine own_go (T' := T124) (g' := (mkF m 32 #[rv a, iv (2 : Int32), rv b, iv (2 : Int32), iv (3 : Int32), iv (2 : Int32), iv c2] [])) (st124) ?_
  refine own_go (T' := T124) (g' := (mkF m 35 #[rv a, iv (3 : Int32), rv b, iv (2 : Int32), iv (3 : Int32), iv (2 : Int32), iv c2] [])) (fun t k => XS.iinc X124.here hx rfl (hb hby own_d_jdk_52_method_21_code_32) rfl (l' := #[rv a, iv (3 : Int32), rv b, iv (2 : Int32), iv (3 : Int32), iv (2 : Int32), iv c2]) rfl k) ?_
  refine own_go (T' := T124) (g' := (mkF m 38 #[rv a, iv (3 : Int32), rv b, iv (3 : Int32), iv (3 : Int32), iv (2 : Int32), iv c2] [])) (fun t k => XS.iinc X124.here hx rfl (hb hby own_d_jdk_52_method_21_code_35) rfl (l' := #[rv a, iv (3 : Int32), rv b, iv (3 : Int32), iv (3 : Int32), iv (2 : Int32), iv c2]) rfl k) ?_
  refine own_go (T' := T124) (g' := (mkF m 41 #[rv a, iv (3 : Int32), rv b, iv (3 : Int32), iv (3 : Int32), iv (3 : Int32), iv c2] [])) (fun t k => XS.iinc X124.here hx rfl (hb hby own_d_jdk_52_method_21_code_38) rfl (l' := #[rv a, iv (3 : Int32), rv b, iv (3 : Int32), iv (3 : Int32), iv (3 : Int32), iv c2]) rfl k) ?_
  refine own_go (T' := T124) (g' := (mkF m 3 #[rv a, iv (3 : Int32), rv b, iv (3 : Int32), iv (3 : Int32), iv (3 : Int32), iv c2] [])) (fun t k => XS.goto X124.here hx rfl (pc0 := 41) (pc' := 3) rfl (hb hby own_d_jdk_52_method_21_code_41) (by decide) (by decide) k) ?_
  refine own_go (T' := T124) (g' := (mkF m 5 #[rv a, iv (3 : Int32), rv b, iv (3 : Int32), iv (3 : Int32), iv (3 : Int32), iv c2] [(.int (3 : Int32))])) (fun t k => XS.iload X124.here hx rfl (hb hby own_d_jdk_52_method_21_code_3) rfl k) ?_
  refine own_go (T' := T124) (g' := (mkF m 7 #[rv a, iv (3 : Int32), rv b, iv (3 : Int32), iv (3 : Int32), iv (3 : Int32), iv c2] [(.int (3 : Int32)), (.int (3 : Int32))])) (fun t k => XS.iload X124.here hx rfl (hb hby own_d_jdk_52_method_21_code_5) rfl k) ?_
  refine own_go (T' := T124) (g' := (mkF m 44 #[rv a, iv (3 : Int32), rv b, iv (3 : Int32), iv (3 : Int32), iv (3 : Int32), iv c2] [])) (fun t k => XS.icmpYes X124.here hx rfl (pc0 := 7) (pc' := 44) rfl (hb hby own_d_jdk_52_method_21_code_7) rfl (flt (by decide : ¬ ((3 : Int32) < (3 : Int32)))).2.1 (by decide) (by decide) k) ?_
  refine own_go (T' := T124) (g' := (mkF m 46 #[rv a, iv (3 : Int32), rv b, iv (3 : Int32), iv (3 : Int32), iv (3 : Int32), iv c2] [(.int (3 : Int32))])) (fun t k => XS.iload X124.here hx rfl (hb hby own_d_jdk_52_method_21_code_44) rfl k) ?_
  exact own_ret X124 hlk hx Bd.returns rfl (Or.inl ⟨rfl, Or.inl rfl, _, rfl⟩) (hb hby own_d_jdk_52_method_21_code_46) (by rw [e124]; exact ⟨rfl, N124, K124, V124⟩) (by decide) (by decide)

def Q_own_rc3_3 (Z : State) (c0 c1 c2 : Int32) (h0 : Heap) (n0 : Nat) (v : Option Value) (h : Heap) (L : List Loc) : Prop := ∃ (b : Addr) (kb : ClassId), v = some (.ref b) ∧ Fr n0 L ∧ h0.size ≤ b ∧ Keep h0 h [] ∧ Arv Z h b kb .byte (3 : Int32) [(.int c0), (.int c1), (.int c2)] (.int (0 : Int32)) ∧ Exa Z h b "[B"
set_option maxRecDepth 65536 in
set_option maxHeartbeats 40000000 in
theorem own_rc3_3 (l : Launch) (Z : State) (a0 : Array Value) (hw : ∀ d ∈ tables_1, d.before a0 Z = true) (ws : List Jvm.Cond) (a : Addr) (ka : ClassId) (c0 c1 c2 : Int32) (h0 : Heap) (n0 : Nat) (Z0 : n0 ≤ h0.size) (V_a : Arv Z h0 a ka .char (3 : Int32) [(.int c0), (.int c1), (.int c2)] (.int (0 : Int32))) (q0 : own_C c0) (q1 : own_C c1) (q2 : own_C c2) :
    MetFree l (⟨"java/lang/StringUTF16", "compress", "([CII)[B"⟩ : MethodName) (head1 (Jvm.Cond.code (⟨"java/lang/StringUTF16", "compress", "([CII)[B"⟩ : MethodName) jdk_52_method_16_code 6 (some (.array .byte)) :: ws) ({ frames := 1, cells := 1, slots := 3, locals := 18 } : Room)) (fun au Uu => au = #[(.ref a), (.int (0 : Int32)), (.int (3 : Int32))] ∧ Z.Warmed39 Uu.vm ∧ Uu.heap = h0) (fun _ _ _ _ _ => True) (fun _ Uu ou Uw => ∃ vu Lu, ou = .returned vu ∧ Q_own_rc3_3 Z c0 c1 c2 h0 n0 vu Uw.heap Lu ∧ FrameEnd Uu ou Uw Lu ({ frames := 1, cells := 1, slots := 3, locals := 18 } : Room).cells ({ frames := 1, cells := 1, slots := 3, locals := 18 } : Room).slots) := by
  refine MetFree.of_bodySF (plainFor_of_name (by first | (simp [plainName, overriddenIn]; done) | decide +kernel)) hisR ?_
  intro p e s m args below meth c s₁ Bd hml0 hP hK
  obtain ⟨rfl, hZ, hh⟩ := hP
  have hx := Bd.exec
  have hby := Bd.bytes
  have hlk := Bd.notSynchronized
  have hml : c.maxLocals = 6 := hml0
  have hown : s.vm.findClass "java/lang/StringUTF16" = some m.cls := findClass_of_methodNamed Bd.named
  have hnm := (name_of_methodNamed Bd.named Bd.method).1
  have X0 : Stand p l e ({ frames := 1, cells := 1, slots := 3, locals := 18 } : Room) s m #[(.ref a), (.int (0 : Int32)), (.int (3 : Int32))] below meth c s₁ [] 0 0 := Stand.of_body Bd
  have e0 : s₁.heap = h0 := by rw [← hh, Bd.state]; rfl
  have N0 := Fr.nil n0
  show own_Ends p e below s₁ (entryFrame m #[(.ref a), (.int (0 : Int32)), (.int (3 : Int32))] 6) (fun ou Uw => ∃ vu Lu, ou = .returned vu ∧ Q_own_rc3_3 Z c0 c1 c2 h0 n0 vu Uw.heap Lu ∧ FrameEnd s ou Uw Lu ({ frames := 1, cells := 1, slots := 3, locals := 18 } : Room).cells ({ frames := 1, cells := 1, slots := 3, locals := 18 } : Room).slots)
  refine own_start (g' := (mkF m 0 #[rv a, iv (0 : Int32), iv (3 : Int32), .unset, .unset, .unset] [])) (by first | (simp [entryFrame, mkF, argsToLocals, Value.category, iv, rv]; done) | rfl) ?_
  refine own_go (T' := s₁) (g' := (mkF m 1 #[rv a, iv (0 : Int32), iv (3 : Int32), .unset, .unset, .unset] [(.int (3 : Int32))])) (fun t k => XS.iloadN X0.here hx rfl (hb hby own_d_jdk_52_method_16_code_0) rfl k) ?_
  obtain ⟨T127, h127, k127, X127, e127, E127, A127, B127, st127⟩ := newPE X0 hx hZ (hw _ (List.mem_of_getElem? (i := 27) rfl)) e0 (g := (mkF m 1 #[rv a, iv (0 : Int32), iv (3 : Int32), .unset, .unset, .unset] [(.int (3 : Int32))])) rfl (hb hby own_d_jdk_52_method_16_code_1) rfl (by decide) (cap := 3) (by decide) (by decide) (by decide) (by decide) (ad := "[B") (by decide)
  obtain ⟨b127, g127⟩ : ∃ z, z = h0.size := ⟨_, rfl⟩
  rw [← g127] at A127 B127 st127
  have gn127 : n0 ≤ b127 := Nat.le_trans Z0 (Nat.le_of_eq g127.symm)
  have hz127 : n0 ≤ h127.size := Nat.le_trans Z0 E127.1
  have o127 : h0.size ≤ b127 := Nat.le_trans (Keep.refl h0 []).1 (Nat.le_of_eq g127.symm)
  have K127 := (Keep.refl h0 []).ext E127
  have c128 := V_a.ext E127
  have ne129 : a ≠ b127 := Nat.ne_of_lt (Nat.lt_of_lt_of_le V_a.lt (Nat.le_of_eq g127.symm))
  have V127 : Arv Z h127 b127 k127 .byte (3 : Int32) [(.int (0 : Int32)), (.int (0 : Int32)), (.int (0 : Int32))] (.int (0 : Int32)) := (Arv.new A127 (by decide)).pad (pad_rep [] (.int (0 : Int32)) 3)
  refine own_go (T' := T127) (g' := (mkF m 3 #[rv a, iv (0 : Int32), iv (3 : Int32), .unset, .unset, .unset] [(.ref b127)])) (st127) ?_
  refine own_go (T' := T127) (g' := (mkF m 4 #[rv a, iv (0 : Int32), iv (3 : Int32), rv b127, .unset, .unset] [])) (fun t k => XS.astoreN X127.here hx rfl (hb hby own_d_jdk_52_method_16_code_3) rfl rfl (l' := #[rv a, iv (0 : Int32), iv (3 : Int32), rv b127, .unset, .unset]) rfl k) ?_
  refine own_go (T' := T127) (g' := (mkF m 5 #[rv a, iv (0 : Int32), iv (3 : Int32), rv b127, .unset, .unset] [(.ref a)])) (fun t k => XS.aloadN X127.here hx rfl (hb hby own_d_jdk_52_method_16_code_4) rfl rfl k) ?_
  refine own_go (T' := T127) (g' := (mkF m 6 #[rv a, iv (0 : Int32), iv (3 : Int32), rv b127, .unset, .unset] [(.int (0 : Int32)), (.ref a)])) (fun t k => XS.iloadN X127.here hx rfl (hb hby own_d_jdk_52_method_16_code_5) rfl k) ?_
  refine own_go (T' := T127) (g' := (mkF m 7 #[rv a, iv (0 : Int32), iv (3 : Int32), rv b127, .unset, .unset] [(.ref b127), (.int (0 : Int32)), (.ref a)])) (fun t k => XS.aloadN X127.here hx rfl (hb hby own_d_jdk_52_method_16_code_6) rfl rfl k) ?_
  refine own_go (T' := T127) (g' := (mkF m 8 #[rv a, iv (0 : Int32), iv (3 : Int32), rv b127, .unset, .unset] [(.int (0 : Int32)), (.ref b127), (.int (0 : Int32)), (.ref a)])) (fun t k => XS.iconst X127.here hx rfl (hb hby own_d_jdk_52_method_16_code_7) k) ?_
  refine own_go (T' := T127) (g' := (mkF m 9 #[rv a, iv (0 : Int32), iv (3 : Int32), rv b127, .unset, .unset] [(.int (3 : Int32)), (.int (0 : Int32)), (.ref b127), (.int (0 : Int32)), (.ref a)])) (fun t k => XS.iloadN X127.here hx rfl (hb hby own_d_jdk_52_method_16_code_8) rfl k) ?_
  obtain ⟨_, _, ⟨T130, L130, k130, n130⟩, -, X130, ⟨Lc130, hQ130, l130, y130, z130⟩, st130⟩ := Jvm.LawKit.callS X127 hx (y := (⟨"java/lang/StringUTF16", "compress", "([CI[BII)I"⟩ : MethodName)) hown (mvT hZ (hw _ (List.mem_of_getElem? (i := 28) rfl))) (mvT hZ (hw _ (List.mem_of_getElem? (i := 29) rfl))) (mvT hZ (hw _ (List.mem_of_getElem? (i := 25) rfl))) (mvT hZ (hw _ (List.mem_of_getElem? (i := 30) rfl))) (by decide) (backOf (W := 0) (own_rc5_3 l Z a0 hw [] a b127 ka k127 c0 c1 c2 h127 n0 hz127 c128 V127 gn127 ne129 q0 q1 q2) hZ (hw _ (List.mem_of_getElem? (i := 30) rfl)) (hw _ (List.mem_of_getElem? (i := 25) rfl)) (by decide) (by decide)) (g := (mkF m 9 #[rv a, iv (0 : Int32), iv (3 : Int32), rv b127, .unset, .unset] [(.int (3 : Int32)), (.int (0 : Int32)), (.ref b127), (.int (0 : Int32)), (.ref a)])) rfl (by rw [hml]; rfl) (argsL := [(.ref a), (.int (0 : Int32)), (.ref b127), (.int (0 : Int32)), (.int (3 : Int32))]) (rest := []) (lenOf own_pd0 rfl) rfl (by show 2 * 0 + _ ≤ _; exact Nat.le_of_eq rfl) (hb hby own_d_jdk_52_method_16_code_9) (fun _ _ => ⟨rfl, e127, (by decide : 1 + 0 ≤ _), (by decide : 3 + 0 ≤ _)⟩)
  dsimp only [Pt.U, Pt.locs, Pt.cells, Pt.slots] at X130 l130 y130 z130 st130 hQ130
  subst l130 y130 z130
  obtain ⟨rfl, N130q, K_130, V_130⟩ := hQ130
  have N130 := Fr.app N0 N130q
  have c131 := c128.keep K_130 (ninS ne129 nin0)
  have c135 := B127.keep K_130
  have hz130 : n0 ≤ T130.heap.size := Nat.le_trans hz127 K_130.1
  have K130 := Keep.trans K127 K_130 (allS (P := fun x => x ∈ _ ∨ h0.size ≤ x) (Or.inr o127) all0)
  refine own_go (T' := T130) (g' := (mkF m 12 #[rv a, iv (0 : Int32), iv (3 : Int32), rv b127, .unset, .unset] [(.int (3 : Int32))])) (st130) ?_
  refine own_go (T' := T130) (g' := (mkF m 14 #[rv a, iv (0 : Int32), iv (3 : Int32), rv b127, iv (3 : Int32), .unset] [])) (fun t k => XS.istore X130.here hx rfl (hb hby own_d_jdk_52_method_16_code_12) rfl (l' := #[rv a, iv (0 : Int32), iv (3 : Int32), rv b127, iv (3 : Int32), .unset]) rfl k) ?_
  refine own_go (T' := T130) (g' := (mkF m 16 #[rv a, iv (0 : Int32), iv (3 : Int32), rv b127, iv (3 : Int32), .unset] [(.int (3 : Int32))])) (fun t k => XS.iload X130.here hx rfl (hb hby own_d_jdk_52_method_16_code_14) rfl k) ?_
  refine own_go (T' := T130) (g' := (mkF m 17 #[rv a, iv (0 : Int32), iv (3 : Int32), rv b127, iv (3 : Int32), .unset] [(.int (3 : Int32)), (.int (3 : Int32))])) (fun t k => XS.iloadN X130.here hx rfl (hb hby own_d_jdk_52_method_16_code_16) rfl k) ?_
  refine own_go (T' := T130) (g' := (mkF m 57 #[rv a, iv (0 : Int32), iv (3 : Int32), rv b127, iv (3 : Int32), .unset] [])) (fun t k => XS.icmpYes X130.here hx rfl (pc0 := 17) (pc' := 57) rfl (hb hby own_d_jdk_52_method_16_code_17) rfl (teq (by decide : ((3 : Int32) = (3 : Int32)))).1 (by decide) (by decide) k) ?_
  refine own_go (T' := T130) (g' := (mkF m 58 #[rv a, iv (0 : Int32), iv (3 : Int32), rv b127, iv (3 : Int32), .unset] [(.ref b127)])) (fun t k => XS.aloadN X130.here hx rfl (hb hby own_d_jdk_52_method_16_code_57) rfl rfl k) ?_
  exact own_ret X130 hlk hx Bd.returns rfl (Or.inr (Or.inr (Or.inr (Or.inr ⟨rfl, rfl, rfl⟩)))) (hb hby own_d_jdk_52_method_16_code_58) (by exact ⟨b127, _, rfl, N130, o127, K130, V_130, c135⟩) (by decide) (by decide)

def Q_own_rco_3  (h0 : Heap) (n0 : Nat) (v : Option Value) (h : Heap) (L : List Loc) : Prop := v = some (.int 0) ∧ L = [] ∧ h = h0
set_option maxRecDepth 65536 in
set_option maxHeartbeats 40000000 in
theorem own_rco_3 (l : Launch) (Z : State) (a0 : Array Value) (hw : ∀ d ∈ tables_1, d.before a0 Z = true) (ws : List Jvm.Cond) (b : Addr) (kb : ClassId) (c0 c1 c2 : Int32) (h0 : Heap) (n0 : Nat) (Z0 : n0 ≤ h0.size) (V_b : Arv Z h0 b kb .byte (3 : Int32) [(.int c0), (.int c1), (.int c2)] (.int (0 : Int32))) :
    MetFree l (⟨"java/lang/StringUTF16", "coderFromArrayLen", "([BI)B"⟩ : MethodName) (head1 (Jvm.Cond.code (⟨"java/lang/StringUTF16", "coderFromArrayLen", "([BI)B"⟩ : MethodName) jdk_52_method_15_code 2 (some .byte) :: ws) ({ frames := 0, cells := 0, slots := 0, locals := 0 } : Room)) (fun au Uu => au = #[(.ref b), (.int (3 : Int32))] ∧ Z.Warmed39 Uu.vm ∧ Uu.heap = h0) (fun _ _ _ _ _ => True) (fun _ Uu ou Uw => ∃ vu Lu, ou = .returned vu ∧ Q_own_rco_3  h0 n0 vu Uw.heap Lu ∧ FrameEnd Uu ou Uw Lu ({ frames := 0, cells := 0, slots := 0, locals := 0 } : Room).cells ({ frames := 0, cells := 0, slots := 0, locals := 0 } : Room).slots) := by
  refine MetFree.of_bodySF (plainFor_of_name (by first | (simp [plainName, overriddenIn]; done) | decide +kernel)) hisR ?_
  intro p e s m args below meth c s₁ Bd hml0 hP hK
  obtain ⟨rfl, hZ, hh⟩ := hP
  have hx := Bd.exec
  have hby := Bd.bytes
  have hlk := Bd.notSynchronized
  have hml : c.maxLocals = 2 := hml0
  have hown : s.vm.findClass "java/lang/StringUTF16" = some m.cls := findClass_of_methodNamed Bd.named
  have hnm := (name_of_methodNamed Bd.named Bd.method).1
  have X0 : Stand p l e ({ frames := 0, cells := 0, slots := 0, locals := 0 } : Room) s m #[(.ref b), (.int (3 : Int32))] below meth c s₁ [] 0 0 := Stand.of_body Bd
  have e0 : s₁.heap = h0 := by rw [← hh, Bd.state]; rfl
  have N0 := Fr.nil n0
  show own_Ends p e below s₁ (entryFrame m #[(.ref b), (.int (3 : Int32))] 2) (fun ou Uw => ∃ vu Lu, ou = .returned vu ∧ Q_own_rco_3  h0 n0 vu Uw.heap Lu ∧ FrameEnd s ou Uw Lu ({ frames := 0, cells := 0, slots := 0, locals := 0 } : Room).cells ({ frames := 0, cells := 0, slots := 0, locals := 0 } : Room).slots)
  refine own_start (g' := (mkF m 0 #[rv b, iv (3 : Int32)] [])) (by first | (simp [entryFrame, mkF, argsToLocals, Value.category, iv, rv]; done) | rfl) ?_
  refine own_go (T' := s₁) (g' := (mkF m 1 #[rv b, iv (3 : Int32)] [(.int (3 : Int32))])) (fun t k => XS.iloadN X0.here hx rfl (hb hby own_d_jdk_52_method_15_code_0) rfl k) ?_
  refine own_go (T' := s₁) (g' := (mkF m 2 #[rv b, iv (3 : Int32)] [(.ref b), (.int (3 : Int32))])) (fun t k => XS.aloadN X0.here hx rfl (hb hby own_d_jdk_52_method_15_code_1) rfl rfl k) ?_
  obtain ⟨cl137, Ar137, -, Sz137, Nn137, -, -⟩ := id V_b
  refine own_go (T' := s₁) (g' := (mkF m 3 #[rv b, iv (3 : Int32)] [(.int (3 : Int32)), (.int (3 : Int32))])) (fun t k => X0.arraylength hx (by rw [e0]; exact Ar137.1) (State.isArrayOf_alike hZ.alike Ar137.2.1) (g := (mkF m 2 #[rv b, iv (3 : Int32)] [(.ref b), (.int (3 : Int32))])) rfl rfl (hb hby own_d_jdk_52_method_15_code_2) _ (by rw [len_of Sz137 Nn137]; exact k)) ?_
  refine own_go (T' := s₁) (g' := (mkF m 4 #[rv b, iv (3 : Int32)] [(.int ((3 : Int32) - (3 : Int32)))])) (fun t k => XS.isub X0.here hx rfl (hb hby own_d_jdk_52_method_15_code_3) rfl k) ?_
  refine own_go (T' := s₁) (g' := (mkF m 6 #[rv b, iv (3 : Int32)] [(.int (31 : Int32)), (.int ((3 : Int32) - (3 : Int32)))])) (fun t k => XS.bipush X0.here hx rfl (hb hby own_d_jdk_52_method_15_code_4) k) ?_
  refine own_go (T' := s₁) (g' := (mkF m 7 #[rv b, iv (3 : Int32)] [(.int ((((3 : Int32) - (3 : Int32)).toUInt32 >>> ((31 : Int32) &&& 31).toUInt32).toInt32))])) (fun t k => XS.iushr X0.here hx rfl (hb hby own_d_jdk_52_method_15_code_6) rfl k) ?_
  refine own_go (T' := s₁) (g' := (mkF m 8 #[rv b, iv (3 : Int32)] [(.int (((((3 : Int32) - (3 : Int32)).toUInt32 >>> ((31 : Int32) &&& 31).toUInt32).toInt32).toInt8.toInt32))])) (fun t k => XS.i2b X0.here hx rfl (hb hby own_d_jdk_52_method_15_code_7) rfl k) ?_
  exact own_ret X0 hlk hx Bd.returns (by decide) (Or.inl ⟨rfl, Or.inr (Or.inr (Or.inl rfl)), _, rfl⟩) (hb hby own_d_jdk_52_method_15_code_8) ⟨congrArg (fun z => some (Value.int z)) (by decide), rfl, e0⟩ (by decide) (by decide)

def Q_own_rsv_3 (Z : State) (s : Addr) (c0 c1 c2 : Int32) (h0 : Heap) (n0 : Nat) (v : Option Value) (h : Heap) (L : List Loc) : Prop := ∃ (b : Addr) (kb : ClassId), v = none ∧ Fr n0 L ∧ h0.size ≤ b ∧ Keep h0 h [s] ∧ Exa Z h s "java/lang/String" ∧ Fld Z h s "java/lang/String" "coder" "B" (.int 0) ∧ Fld Z h s "java/lang/String" "value" "[B" (.ref b) ∧ Arv Z h b kb .byte (3 : Int32) [(.int c0), (.int c1), (.int c2)] (.int (0 : Int32)) ∧ Exa Z h b "[B"
set_option maxRecDepth 65536 in
set_option maxHeartbeats 40000000 in
theorem own_rsv_3 (l : Launch) (Z : State) (a0 : Array Value) (hw : ∀ d ∈ tables_1, d.before a0 Z = true) (ws : List Jvm.Cond) (s_ a : Addr) (ka : ClassId) (cp : Int32) (c0 c1 c2 : Int32) (h0 : Heap) (n0 : Nat) (Z0 : n0 ≤ h0.size) (E_s : Exa Z h0 s_ "java/lang/String") (g_s : n0 ≤ s_) (F_c : Fld Z h0 s_ "java/lang/String" "coder" "B" (.int 0)) (F_v : Fld Z h0 s_ "java/lang/String" "value" "[B" .null) (V_a : Arv Z h0 a ka .char (3 : Int32) [(.int c0), (.int c1), (.int c2)] (.int (0 : Int32))) (n_as : a ≠ s_) (S_cp : Sta Z h0 "java/lang/String" "COMPACT_STRINGS" "Z" (.int cp)) (hcp : ¬ cp = 0) (q0 : own_C c0) (q1 : own_C c1) (q2 : own_C c2) :
    MetFree l (⟨"java/lang/String", "<init>", "([CIILjava/lang/Void;)V"⟩ : MethodName) (head1 (Jvm.Cond.code (⟨"java/lang/String", "<init>", "([CIILjava/lang/Void;)V"⟩ : MethodName) jdk_42_method_149_code 6 none :: ws) ({ frames := 2, cells := 1, slots := 3, locals := 35 } : Room)) (fun au Uu => au = #[(.ref s_), (.ref a), (.int (0 : Int32)), (.int (3 : Int32)), .null] ∧ Z.Warmed39 Uu.vm ∧ Uu.heap = h0) (fun _ _ _ _ _ => True) (fun _ Uu ou Uw => ∃ vu Lu, ou = .returned vu ∧ Q_own_rsv_3 Z s_ c0 c1 c2 h0 n0 vu Uw.heap Lu ∧ FrameEnd Uu ou Uw Lu ({ frames := 2, cells := 1, slots := 3, locals := 35 } : Room).cells ({ frames := 2, cells := 1, slots := 3, locals := 35 } : Room).slots) := by
  refine MetFree.of_bodySF (plainFor_of_name (by first | (simp [plainName, overriddenIn]; done) | decide +kernel)) hisR ?_
  intro p e s m args below meth c s₁ Bd hml0 hP hK
  obtain ⟨rfl, hZ, hh⟩ := hP
  have hx := Bd.exec
  have hby := Bd.bytes
  have hlk := Bd.notSynchronized
  have hml : c.maxLocals = 6 := hml0
  have hown : s.vm.findClass "java/lang/String" = some m.cls := findClass_of_methodNamed Bd.named
  have hnm := (name_of_methodNamed Bd.named Bd.method).1
  have X0 : Stand p l e ({ frames := 2, cells := 1, slots := 3, locals := 35 } : Room) s m #[(.ref s_), (.ref a), (.int (0 : Int32)), (.int (3 : Int32)), .null] below meth c s₁ [] 0 0 := Stand.of_body Bd
  have e0 : s₁.heap = h0 := by rw [← hh, Bd.state]; rfl
  have N0 := Fr.nil n0
  show own_Ends p e below s₁ (entryFrame m #[(.ref s_), (.ref a), (.int (0 : Int32)), (.int (3 : Int32)), .null] 6) (fun ou Uw => ∃ vu Lu, ou = .returned vu ∧ Q_own_rsv_3 Z s_ c0 c1 c2 h0 n0 vu Uw.heap Lu ∧ FrameEnd s ou Uw Lu ({ frames := 2, cells := 1, slots := 3, locals := 35 } : Room).cells ({ frames := 2, cells := 1, slots := 3, locals := 35 } : Room).slots)
  refine own_start (g' := (mkF m 0 #[rv s_, rv a, iv (0 : Int32), iv (3 : Int32), .val .null, .unset] [])) (by first | (simp [entryFrame, mkF, argsToLocals, Value.category, iv, rv]; done) | rfl) ?_
  refine own_go (T' := s₁) (g' := (mkF m 1 #[rv s_, rv a, iv (0 : Int32), iv (3 : Int32), .val .null, .unset] [(.ref s_)])) (fun t k => XS.aloadN X0.here hx rfl (hb hby own_d_jdk_42_method_149_code_0) rfl rfl k) ?_
  obtain ⟨T138, X138, e138, st138⟩ := initO X0 hx hZ hown (hw _ (List.mem_of_getElem? (i := 19) rfl)) (hw _ (List.mem_of_getElem? (i := 20) rfl)) (hw _ (List.mem_of_getElem? (i := 21) rfl)) e0 (g := (mkF m 1 #[rv s_, rv a, iv (0 : Int32), iv (3 : Int32), .val .null, .unset] [(.ref s_)])) rfl (by rw [hml]; rfl) rfl (hb hby own_d_jdk_42_method_149_code_1) (by decide) (W := 0) (by show 2 * 0 + _ ≤ _; exact Nat.le_of_eq rfl) (by decide)
  refine own_go (T' := T138) (g' := (mkF m 4 #[rv s_, rv a, iv (0 : Int32), iv (3 : Int32), .val .null, .unset] [])) (st138) ?_
  refine own_go (T' := T138) (g' := (mkF m 5 #[rv s_, rv a, iv (0 : Int32), iv (3 : Int32), .val .null, .unset] [(.int (3 : Int32))])) (fun t k => XS.iloadN X138.here hx rfl (hb hby own_d_jdk_42_method_149_code_4) rfl k) ?_
  refine own_go (T' := T138) (g' := (mkF m 27 #[rv s_, rv a, iv (0 : Int32), iv (3 : Int32), .val .null, .unset] [])) (fun t k => XS.ifYes X138.here hx rfl (pc0 := 5) (pc' := 27) rfl (hb hby own_d_jdk_42_method_149_code_5) rfl ((if0 _ _).trans (feq (by decide : ¬ ((3 : Int32) = (0 : Int32)))).2) (by decide) (by decide) k) ?_
  obtain ⟨T139, X139, e139, st139⟩ := getS2 X138 hx hZ hown (host := "") (Or.inl (hw _ (List.mem_of_getElem? (i := 22) rfl))) Via.refl e138 S_cp (g := (mkF m 27 #[rv s_, rv a, iv (0 : Int32), iv (3 : Int32), .val .null, .unset] [])) rfl (hb hby own_d_jdk_42_method_149_code_27)
  refine own_go (T' := T139) (g' := (mkF m 30 #[rv s_, rv a, iv (0 : Int32), iv (3 : Int32), .val .null, .unset] [(.int cp)])) (st139) ?_
  refine own_go (T' := T139) (g' := (mkF m 33 #[rv s_, rv a, iv (0 : Int32), iv (3 : Int32), .val .null, .unset] [])) (fun t k => XS.ifNo X139.here hx rfl (hb hby own_d_jdk_42_method_149_code_30) rfl ((if0 _ _).trans (feq (hcp : ¬ (cp = (0 : Int32)))).1) k) ?_
  refine own_go (T' := T139) (g' := (mkF m 34 #[rv s_, rv a, iv (0 : Int32), iv (3 : Int32), .val .null, .unset] [(.ref a)])) (fun t k => XS.aloadN X139.here hx rfl (hb hby own_d_jdk_42_method_149_code_33) rfl rfl k) ?_
  refine own_go (T' := T139) (g' := (mkF m 35 #[rv s_, rv a, iv (0 : Int32), iv (3 : Int32), .val .null, .unset] [(.int (0 : Int32)), (.ref a)])) (fun t k => XS.iloadN X139.here hx rfl (hb hby own_d_jdk_42_method_149_code_34) rfl k) ?_
  refine own_go (T' := T139) (g' := (mkF m 36 #[rv s_, rv a, iv (0 : Int32), iv (3 : Int32), .val .null, .unset] [(.int (3 : Int32)), (.int (0 : Int32)), (.ref a)])) (fun t k => XS.iloadN X139.here hx rfl (hb hby own_d_jdk_42_method_149_code_35) rfl k) ?_
  obtain ⟨_, _, ⟨T140, L140, k140, n140⟩, -, X140, ⟨Lc140, hQ140, l140, y140, z140⟩, st140⟩ := Jvm.LawKit.callS X139 hx (y := (⟨"java/lang/StringUTF16", "compress", "([CII)[B"⟩ : MethodName)) hown (mvT hZ (hw _ (List.mem_of_getElem? (i := 23) rfl))) (mvT hZ (hw _ (List.mem_of_getElem? (i := 24) rfl))) (mvT hZ (hw _ (List.mem_of_getElem? (i := 25) rfl))) (mvT hZ (hw _ (List.mem_of_getElem? (i := 26) rfl))) (by decide) (backOf (W := 0) (own_rc3_3 l Z a0 hw [] a ka c0 c1 c2 h0 n0 Z0 V_a q0 q1 q2) hZ (hw _ (List.mem_of_getElem? (i := 26) rfl)) (hw _ (List.mem_of_getElem? (i := 25) rfl)) (by decide) (by decide)) (g := (mkF m 36 #[rv s_, rv a, iv (0 : Int32), iv (3 : Int32), .val .null, .unset] [(.int (3 : Int32)), (.int (0 : Int32)), (.ref a)])) rfl (by rw [hml]; rfl) (argsL := [(.ref a), (.int (0 : Int32)), (.int (3 : Int32))]) (rest := []) (lenOf own_pd1 rfl) rfl (by show 2 * 0 + _ ≤ _; exact Nat.le_of_eq rfl) (hb hby own_d_jdk_42_method_149_code_36) (fun _ _ => ⟨rfl, e139, (by decide : 0 + 1 ≤ _), (by decide : 0 + 3 ≤ _)⟩)
  dsimp only [Pt.U, Pt.locs, Pt.cells, Pt.slots] at X140 l140 y140 z140 st140 hQ140
  subst l140 y140 z140
  obtain ⟨b_140, k_140, rfl, N140q, ob_140, K_140, V_140, B_140⟩ := hQ140
  have N140 := Fr.app N0 N140q
  have nq141 : s_ ≠ b_140 := Nat.ne_of_lt (Nat.lt_of_lt_of_le E_s.lt ob_140)
  have nq142 : a ≠ b_140 := Nat.ne_of_lt (Nat.lt_of_lt_of_le V_a.lt ob_140)
  have oo_140 : h0.size ≤ b_140 := Nat.le_trans (Keep.refl h0 [s_]).1 ob_140
  have c143 := E_s.keep K_140
  have c145 := F_c.keep K_140 nin0
  have c146 := F_v.keep K_140 nin0
  have c148 := V_a.keep K_140 nin0
  have c149 := own_sta_keep S_cp K_140 own_ns0
  have hz140 : n0 ≤ T140.heap.size := Nat.le_trans Z0 K_140.1
  have K140 := Keep.trans (Keep.refl h0 [s_]) K_140 all0
  refine own_go (T' := T140) (g' := (mkF m 39 #[rv s_, rv a, iv (0 : Int32), iv (3 : Int32), .val .null, .unset] [(.ref b_140)])) (st140) ?_
  refine own_go (T' := T140) (g' := (mkF m 41 #[rv s_, rv a, iv (0 : Int32), iv (3 : Int32), .val .null, rv b_140] [])) (fun t k => XS.astore X140.here hx rfl (hb hby own_d_jdk_42_method_149_code_39) rfl rfl (l' := #[rv s_, rv a, iv (0 : Int32), iv (3 : Int32), .val .null, rv b_140]) rfl k) ?_
  refine own_go (T' := T140) (g' := (mkF m 42 #[rv s_, rv a, iv (0 : Int32), iv (3 : Int32), .val .null, rv b_140] [(.ref s_)])) (fun t k => XS.aloadN X140.here hx rfl (hb hby own_d_jdk_42_method_149_code_41) rfl rfl k) ?_
  refine own_go (T' := T140) (g' := (mkF m 44 #[rv s_, rv a, iv (0 : Int32), iv (3 : Int32), .val .null, rv b_140] [(.ref b_140), (.ref s_)])) (fun t k => XS.aload X140.here hx rfl (hb hby own_d_jdk_42_method_149_code_42) rfl rfl k) ?_
  refine own_go (T' := T140) (g' := (mkF m 45 #[rv s_, rv a, iv (0 : Int32), iv (3 : Int32), .val .null, rv b_140] [(.int (3 : Int32)), (.ref b_140), (.ref s_)])) (fun t k => XS.iloadN X140.here hx rfl (hb hby own_d_jdk_42_method_149_code_44) rfl k) ?_
  obtain ⟨_, _, ⟨T150, L150, k150, n150⟩, -, X150, ⟨Lc150, hQ150, l150, y150, z150⟩, st150⟩ := Jvm.LawKit.callS X140 hx (y := (⟨"java/lang/StringUTF16", "coderFromArrayLen", "([BI)B"⟩ : MethodName)) hown (mvT hZ (hw _ (List.mem_of_getElem? (i := 31) rfl))) (mvT hZ (hw _ (List.mem_of_getElem? (i := 32) rfl))) (mvT hZ (hw _ (List.mem_of_getElem? (i := 25) rfl))) (mvT hZ (hw _ (List.mem_of_getElem? (i := 33) rfl))) (by decide) (backOf (W := 1) (own_rco_3 l Z a0 hw [] b_140 k_140 c0 c1 c2 T140.heap n0 hz140 V_140) hZ (hw _ (List.mem_of_getElem? (i := 33) rfl)) (hw _ (List.mem_of_getElem? (i := 25) rfl)) (by decide) (by decide)) (g := (mkF m 45 #[rv s_, rv a, iv (0 : Int32), iv (3 : Int32), .val .null, rv b_140] [(.int (3 : Int32)), (.ref b_140), (.ref s_)])) rfl (by rw [hml]; rfl) (argsL := [(.ref b_140), (.int (3 : Int32))]) (rest := [(.ref s_)]) (lenOf own_pd2 rfl) rfl (by show 2 * 0 + _ ≤ _; exact Nat.le_of_eq rfl) (hb hby own_d_jdk_42_method_149_code_45) (fun _ _ => ⟨rfl, rfl, (by decide : 1 + 0 ≤ _), (by decide : 3 + 0 ≤ _)⟩)
  dsimp only [Pt.U, Pt.locs, Pt.cells, Pt.slots] at X150 l150 y150 z150 st150 hQ150
  subst l150 y150 z150
  obtain ⟨rfl, rfl, e150⟩ := hQ150
  have E150q : T150.heap = T140.heap := e150
  have N150 := Fr.app N140 (Fr.nil n0)
  refine own_go (T' := T150) (g' := (mkF m 48 #[rv s_, rv a, iv (0 : Int32), iv (3 : Int32), .val .null, rv b_140] [(.int (0 : Int32)), (.ref s_)])) (st150) ?_
  obtain ⟨T151, h151, X151, e151, W151, st151⟩ := putF X150 hx hZ hown (host := "") (Or.inl (hw _ (List.mem_of_getElem? (i := 34) rfl))) Via.refl E150q c145 c143 (Or.inr ⟨(hw _ (List.mem_of_getElem? (i := 35) rfl)), rfl, hnm⟩) (hw _ (List.mem_of_getElem? (i := 9) rfl)) (ty := .byte) (by decide) rfl rfl (g := (mkF m 48 #[rv s_, rv a, iv (0 : Int32), iv (3 : Int32), .val .null, rv b_140] [(.int (0 : Int32)), (.ref s_)])) rfl rfl (hb hby own_d_jdk_42_method_149_code_48)
  have hz151 : n0 ≤ h151.size := Nat.le_trans hz140 (Keep.of_wr W151).1
  have N151 := Fr.snoc X151 N150 g_s
  have K151 := K140.wr W151 (Or.inl (List.mem_of_getElem? (i := 0) rfl))
  have c152 := c143.wr W151
  have c153 := c145.same W151
  have c154 := c146.other W151 (Or.inr (slot_ne (Or.inr (hw _ (List.mem_of_getElem? (i := 37) rfl))) (Or.inr (hw _ (List.mem_of_getElem? (i := 35) rfl))) (by decide) (t := (.array .byte)) (t' := .byte) (by decide) (by decide)))
  have c155 := c148.other W151 n_as
  have c156 := c149.wr W151
  have c157 := V_140.other W151 (Ne.symm nq141)
  have c158 := B_140.wr W151
  refine own_go (T' := T151) (g' := (mkF m 51 #[rv s_, rv a, iv (0 : Int32), iv (3 : Int32), .val .null, rv b_140] [])) (st151) ?_
  refine own_go (T' := T151) (g' := (mkF m 52 #[rv s_, rv a, iv (0 : Int32), iv (3 : Int32), .val .null, rv b_140] [(.ref s_)])) (fun t k => XS.aloadN X151.here hx rfl (hb hby own_d_jdk_42_method_149_code_51) rfl rfl k) ?_
  refine own_go (T' := T151) (g' := (mkF m 54 #[rv s_, rv a, iv (0 : Int32), iv (3 : Int32), .val .null, rv b_140] [(.ref b_140), (.ref s_)])) (fun t k => XS.aload X151.here hx rfl (hb hby own_d_jdk_42_method_149_code_52) rfl rfl k) ?_
  obtain ⟨T159, h159, X159, e159, W159, st159⟩ := putF X151 hx hZ hown (host := "") (Or.inl (hw _ (List.mem_of_getElem? (i := 36) rfl))) Via.refl e151 c154 c152 (Or.inr ⟨(hw _ (List.mem_of_getElem? (i := 37) rfl)), rfl, hnm⟩) (hw _ (List.mem_of_getElem? (i := 9) rfl)) (ty := (.array .byte)) (by decide) rfl rfl (g := (mkF m 54 #[rv s_, rv a, iv (0 : Int32), iv (3 : Int32), .val .null, rv b_140] [(.ref b_140), (.ref s_)])) rfl rfl (hb hby own_d_jdk_42_method_149_code_54)
  have hz159 : n0 ≤ h159.size := Nat.le_trans hz151 (Keep.of_wr W159).1
  have N159 := Fr.snoc X159 N151 g_s
  have K159 := K151.wr W159 (Or.inl (List.mem_of_getElem? (i := 0) rfl))
  have c160 := c152.wr W159
  have c161 := c153.other W159 (Or.inr (slot_ne (Or.inr (hw _ (List.mem_of_getElem? (i := 35) rfl))) (Or.inr (hw _ (List.mem_of_getElem? (i := 37) rfl))) (by decide) (t := .byte) (t' := (.array .byte)) (by decide) (by decide)))
  have c162 := c154.same W159
  have c163 := c155.other W159 n_as
  have c164 := c156.wr W159
  have c165 := c157.other W159 (Ne.symm nq141)
  have c166 := c158.wr W159
  refine own_go (T' := T159) (g' := (mkF m 57 #[rv s_, rv a, iv (0 : Int32), iv (3 : Int32), .val .null, rv b_140] [])) (st159) ?_
  exact own_ret0 X159 hlk hx Bd.returns (hb hby own_d_jdk_42_method_149_code_57) (by rw [e159]; exact ⟨b_140, _, rfl, N159, oo_140, K159, c160, c161, c162, c165, c166⟩) (by decide) (by decide)

def Q_own_rsi_3 (Z : State) (s : Addr) (c0 c1 c2 : Int32) (h0 : Heap) (n0 : Nat) (v : Option Value) (h : Heap) (L : List Loc) : Prop := ∃ (b : Addr) (kb : ClassId), v = none ∧ Fr n0 L ∧ h0.size ≤ b ∧ Keep h0 h [s] ∧ Exa Z h s "java/lang/String" ∧ Fld Z h s "java/lang/String" "coder" "B" (.int 0) ∧ Fld Z h s "java/lang/String" "value" "[B" (.ref b) ∧ Arv Z h b kb .byte (3 : Int32) [(.int c0), (.int c1), (.int c2)] (.int (0 : Int32)) ∧ Exa Z h b "[B"
set_option maxRecDepth 65536 in
set_option maxHeartbeats 40000000 in
theorem own_rsi_3 (l : Launch) (Z : State) (a0 : Array Value) (hw : ∀ d ∈ tables_1, d.before a0 Z = true) (ws : List Jvm.Cond) (s_ a : Addr) (ka : ClassId) (cp : Int32) (c0 c1 c2 : Int32) (h0 : Heap) (n0 : Nat) (Z0 : n0 ≤ h0.size) (E_s : Exa Z h0 s_ "java/lang/String") (g_s : n0 ≤ s_) (F_c : Fld Z h0 s_ "java/lang/String" "coder" "B" (.int 0)) (F_v : Fld Z h0 s_ "java/lang/String" "value" "[B" .null) (V_a : Arv Z h0 a ka .char (3 : Int32) [(.int c0), (.int c1), (.int c2)] (.int (0 : Int32))) (n_as : a ≠ s_) (S_cp : Sta Z h0 "java/lang/String" "COMPACT_STRINGS" "Z" (.int cp)) (hcp : ¬ cp = 0) (q0 : own_C c0) (q1 : own_C c1) (q2 : own_C c2) :
    MetFree l (⟨"java/lang/String", "<init>", "([C)V"⟩ : MethodName) (head1 (Jvm.Cond.code (⟨"java/lang/String", "<init>", "([C)V"⟩ : MethodName) jdk_42_method_3_code 2 none :: ws) ({ frames := 3, cells := 1, slots := 3, locals := 52 } : Room)) (fun au Uu => au = #[(.ref s_), (.ref a)] ∧ Z.Warmed39 Uu.vm ∧ Uu.heap = h0) (fun _ _ _ _ _ => True) (fun _ Uu ou Uw => ∃ vu Lu, ou = .returned vu ∧ Q_own_rsi_3 Z s_ c0 c1 c2 h0 n0 vu Uw.heap Lu ∧ FrameEnd Uu ou Uw Lu ({ frames := 3, cells := 1, slots := 3, locals := 52 } : Room).cells ({ frames := 3, cells := 1, slots := 3, locals := 52 } : Room).slots) := by
  refine MetFree.of_bodySF (plainFor_of_name (by first | (simp [plainName, overriddenIn]; done) | decide +kernel)) hisR ?_
  intro p e s m args below meth c s₁ Bd hml0 hP hK
  obtain ⟨rfl, hZ, hh⟩ := hP
  have hx := Bd.exec
  have hby := Bd.bytes
  have hlk := Bd.notSynchronized
  have hml : c.maxLocals = 2 := hml0
  have hown : s.vm.findClass "java/lang/String" = some m.cls := findClass_of_methodNamed Bd.named
  have hnm := (name_of_methodNamed Bd.named Bd.method).1
  have X0 : Stand p l e ({ frames := 3, cells := 1, slots := 3, locals := 52 } : Room) s m #[(.ref s_), (.ref a)] below meth c s₁ [] 0 0 := Stand.of_body Bd
  have e0 : s₁.heap = h0 := by rw [← hh, Bd.state]; rfl
  have N0 := Fr.nil n0
  show own_Ends p e below s₁ (entryFrame m #[(.ref s_), (.ref a)] 2) (fun ou Uw => ∃ vu Lu, ou = .returned vu ∧ Q_own_rsi_3 Z s_ c0 c1 c2 h0 n0 vu Uw.heap Lu ∧ FrameEnd s ou Uw Lu ({ frames := 3, cells := 1, slots := 3, locals := 52 } : Room).cells ({ frames := 3, cells := 1, slots := 3, locals := 52 } : Room).slots)
  refine own_start (g' := (mkF m 0 #[rv s_, rv a] [])) (by first | (simp [entryFrame, mkF, argsToLocals, Value.category, iv, rv]; done) | rfl) ?_
  refine own_go (T' := s₁) (g' := (mkF m 1 #[rv s_, rv a] [(.ref s_)])) (fun t k => XS.aloadN X0.here hx rfl (hb hby own_d_jdk_42_method_3_code_0) rfl rfl k) ?_
  refine own_go (T' := s₁) (g' := (mkF m 2 #[rv s_, rv a] [(.ref a), (.ref s_)])) (fun t k => XS.aloadN X0.here hx rfl (hb hby own_d_jdk_42_method_3_code_1) rfl rfl k) ?_
  refine own_go (T' := s₁) (g' := (mkF m 3 #[rv s_, rv a] [(.int (0 : Int32)), (.ref a), (.ref s_)])) (fun t k => XS.iconst X0.here hx rfl (hb hby own_d_jdk_42_method_3_code_2) k) ?_
  refine own_go (T' := s₁) (g' := (mkF m 4 #[rv s_, rv a] [(.ref a), (.int (0 : Int32)), (.ref a), (.ref s_)])) (fun t k => XS.aloadN X0.here hx rfl (hb hby own_d_jdk_42_method_3_code_3) rfl rfl k) ?_
  obtain ⟨cl167, Ar167, -, Sz167, Nn167, -, -⟩ := id V_a
  refine own_go (T' := s₁) (g' := (mkF m 5 #[rv s_, rv a] [(.int (3 : Int32)), (.int (0 : Int32)), (.ref a), (.ref s_)])) (fun t k => X0.arraylength hx (by rw [e0]; exact Ar167.1) (State.isArrayOf_alike hZ.alike Ar167.2.1) (g := (mkF m 4 #[rv s_, rv a] [(.ref a), (.int (0 : Int32)), (.ref a), (.ref s_)])) rfl rfl (hb hby own_d_jdk_42_method_3_code_4) _ (by rw [len_of Sz167 Nn167]; exact k)) ?_
  refine own_go (T' := s₁) (g' := (mkF m 6 #[rv s_, rv a] [.null, (.int (3 : Int32)), (.int (0 : Int32)), (.ref a), (.ref s_)])) (fun t k => XS.aconstNull X0.here hx rfl (hb hby own_d_jdk_42_method_3_code_5) k) ?_
  obtain ⟨_, _, ⟨T168, L168, k168, n168⟩, -, X168, ⟨Lc168, hQ168, l168, y168, z168⟩, st168⟩ := X0.specialBack hx (y := (⟨"java/lang/String", "<init>", "([CIILjava/lang/Void;)V"⟩ : MethodName)) rfl hown (mvT hZ (hw _ (List.mem_of_getElem? (i := 15) rfl))) (mvT hZ (hw _ (List.mem_of_getElem? (i := 16) rfl))) (mvT hZ (hw _ (List.mem_of_getElem? (i := 18) rfl))) (by decide) (backOf (W := 0) (own_rsv_3 l Z a0 hw [] s_ a ka cp c0 c1 c2 h0 n0 Z0 E_s g_s F_c F_v V_a n_as S_cp hcp q0 q1 q2) hZ (hw _ (List.mem_of_getElem? (i := 18) rfl)) (hw _ (List.mem_of_getElem? (i := 10) rfl)) (by decide) (by decide)) (g := (mkF m 6 #[rv s_, rv a] [.null, (.int (3 : Int32)), (.int (0 : Int32)), (.ref a), (.ref s_)])) rfl (by rw [hml]; rfl) (Steps.refl _) (a := s_) (argsL := [(.ref a), (.int (0 : Int32)), (.int (3 : Int32)), .null]) (rest := []) (lenOf own_pd3 rfl) rfl (by show 2 * 0 + _ ≤ _; exact Nat.le_of_eq rfl) (hb hby own_d_jdk_42_method_3_code_6) (fun _ _ => ⟨rfl, e0, (by decide : 0 + 1 ≤ _), (by decide : 0 + 3 ≤ _)⟩)
  dsimp only [Pt.U, Pt.locs, Pt.cells, Pt.slots] at X168 l168 y168 z168 st168 hQ168
  subst l168 y168 z168
  obtain ⟨b_168, k_168, rfl, N168q, ob_168, K_168, e_168, c_168, v_168, V_168, B_168⟩ := hQ168
  have N168 := Fr.app N0 N168q
  have nq169 : s_ ≠ b_168 := Nat.ne_of_lt (Nat.lt_of_lt_of_le E_s.lt ob_168)
  have nq170 : a ≠ b_168 := Nat.ne_of_lt (Nat.lt_of_lt_of_le V_a.lt ob_168)
  have oo_168 : h0.size ≤ b_168 := Nat.le_trans (Keep.refl h0 [s_]).1 ob_168
  have c171 := E_s.keep K_168
  have c176 := V_a.keep K_168 (ninS n_as nin0)
  have c177 := own_sta_keep S_cp K_168 (own_nsS (own_nse E_s) own_ns0)
  have hz168 : n0 ≤ T168.heap.size := Nat.le_trans Z0 K_168.1
  have K168 := Keep.trans (Keep.refl h0 [s_]) K_168 (allS (P := fun x => x ∈ _ ∨ h0.size ≤ x) (Or.inl (List.mem_of_getElem? (i := 0) rfl)) all0)
  refine own_go (T' := T168) (g' := (mkF m 9 #[rv s_, rv a] [])) (fun t k => st168.trans k) ?_
  exact own_ret0 X168 hlk hx Bd.returns (hb hby own_d_jdk_42_method_3_code_9) (by exact ⟨b_168, _, rfl, N168, oo_168, K168, e_168, c_168, v_168, V_168, B_168⟩) (by decide) (by decide)

theorem own_pd4 : parseMethodDescriptor "([C)V" = some ⟨[(.array .char)], none⟩ := by decide +kernel
theorem own_d_method_3_code_0 : decode method_3_code 0 = .ok (.iload_n 0, 1) := by decide +kernel
theorem own_d_method_3_code_1 : decode method_3_code 1 = .ok (.iconst 1, 1) := by decide +kernel
theorem own_d_method_3_code_2 : decode method_3_code 2 = .ok (.if_icmp .ne 18, 3) := by decide +kernel
theorem own_d_method_3_code_5 : decode method_3_code 5 = .ok (.new 7, 3) := by decide +kernel
theorem own_d_method_3_code_8 : decode method_3_code 8 = .ok (.dup, 1) := by decide +kernel
theorem own_d_method_3_code_9 : decode method_3_code 9 = .ok (.iconst 1, 1) := by decide +kernel
theorem own_d_method_3_code_10 : decode method_3_code 10 = .ok (.newarray .char, 2) := by decide +kernel
theorem own_d_method_3_code_12 : decode method_3_code 12 = .ok (.dup, 1) := by decide +kernel
theorem own_d_method_3_code_13 : decode method_3_code 13 = .ok (.iconst 0, 1) := by decide +kernel
theorem own_d_method_3_code_14 : decode method_3_code 14 = .ok (.iload_n 1, 1) := by decide +kernel
theorem own_d_method_3_code_15 : decode method_3_code 15 = .ok (.castore, 1) := by decide +kernel
theorem own_d_method_3_code_16 : decode method_3_code 16 = .ok (.invokespecial 9, 3) := by decide +kernel
theorem own_d_method_3_code_19 : decode method_3_code 19 = .ok (.areturn, 1) := by decide +kernel
theorem own_d_method_3_code_20 : decode method_3_code 20 = .ok (.iload_n 0, 1) := by decide +kernel
theorem own_d_method_3_code_21 : decode method_3_code 21 = .ok (.iconst 2, 1) := by decide +kernel
theorem own_d_method_3_code_22 : decode method_3_code 22 = .ok (.if_icmp .ne 22, 3) := by decide +kernel
theorem own_d_method_3_code_25 : decode method_3_code 25 = .ok (.new 7, 3) := by decide +kernel
theorem own_d_method_3_code_28 : decode method_3_code 28 = .ok (.dup, 1) := by decide +kernel
theorem own_d_method_3_code_29 : decode method_3_code 29 = .ok (.iconst 2, 1) := by decide +kernel
theorem own_d_method_3_code_30 : decode method_3_code 30 = .ok (.newarray .char, 2) := by decide +kernel
theorem own_d_method_3_code_32 : decode method_3_code 32 = .ok (.dup, 1) := by decide +kernel
theorem own_d_method_3_code_33 : decode method_3_code 33 = .ok (.iconst 0, 1) := by decide +kernel
theorem own_d_method_3_code_34 : decode method_3_code 34 = .ok (.iload_n 1, 1) := by decide +kernel
theorem own_d_method_3_code_35 : decode method_3_code 35 = .ok (.castore, 1) := by decide +kernel
theorem own_d_method_3_code_36 : decode method_3_code 36 = .ok (.dup, 1) := by decide +kernel
theorem own_d_method_3_code_37 : decode method_3_code 37 = .ok (.iconst 1, 1) := by decide +kernel
theorem own_d_method_3_code_38 : decode method_3_code 38 = .ok (.iload_n 2, 1) := by decide +kernel
theorem own_d_method_3_code_39 : decode method_3_code 39 = .ok (.castore, 1) := by decide +kernel
theorem own_d_method_3_code_40 : decode method_3_code 40 = .ok (.invokespecial 9, 3) := by decide +kernel
theorem own_d_method_3_code_43 : decode method_3_code 43 = .ok (.areturn, 1) := by decide +kernel
theorem own_d_method_3_code_44 : decode method_3_code 44 = .ok (.new 7, 3) := by decide +kernel
theorem own_d_method_3_code_47 : decode method_3_code 47 = .ok (.dup, 1) := by decide +kernel
theorem own_d_method_3_code_48 : decode method_3_code 48 = .ok (.iconst 3, 1) := by decide +kernel
theorem own_d_method_3_code_49 : decode method_3_code 49 = .ok (.newarray .char, 2) := by decide +kernel
theorem own_d_method_3_code_51 : decode method_3_code 51 = .ok (.dup, 1) := by decide +kernel
theorem own_d_method_3_code_52 : decode method_3_code 52 = .ok (.iconst 0, 1) := by decide +kernel
theorem own_d_method_3_code_53 : decode method_3_code 53 = .ok (.iload_n 1, 1) := by decide +kernel
theorem own_d_method_3_code_54 : decode method_3_code 54 = .ok (.castore, 1) := by decide +kernel
theorem own_d_method_3_code_55 : decode method_3_code 55 = .ok (.dup, 1) := by decide +kernel
theorem own_d_method_3_code_56 : decode method_3_code 56 = .ok (.iconst 1, 1) := by decide +kernel
theorem own_d_method_3_code_57 : decode method_3_code 57 = .ok (.iload_n 2, 1) := by decide +kernel
theorem own_d_method_3_code_58 : decode method_3_code 58 = .ok (.castore, 1) := by decide +kernel
theorem own_d_method_3_code_59 : decode method_3_code 59 = .ok (.dup, 1) := by decide +kernel
theorem own_d_method_3_code_60 : decode method_3_code 60 = .ok (.iconst 2, 1) := by decide +kernel
theorem own_d_method_3_code_61 : decode method_3_code 61 = .ok (.iload_n 3, 1) := by decide +kernel
theorem own_d_method_3_code_62 : decode method_3_code 62 = .ok (.castore, 1) := by decide +kernel
theorem own_d_method_3_code_63 : decode method_3_code 63 = .ok (.invokespecial 9, 3) := by decide +kernel
theorem own_d_method_3_code_66 : decode method_3_code 66 = .ok (.areturn, 1) := by decide +kernel
def Q_own_rnm (Z : State) (la c0 c1 c2 : Int32) (h0 : Heap) (n0 : Nat) (v : Option Value) (h : Heap) (L : List Loc) : Prop := ∃ (x b : Addr) (kb : ClassId), v = some (.ref x) ∧ Fr n0 L ∧ h0.size ≤ x ∧ h0.size ≤ b ∧ Keep h0 h [] ∧ Exa Z h x "java/lang/String" ∧ Fld Z h x "java/lang/String" "coder" "B" (.int 0) ∧ Fld Z h x "java/lang/String" "value" "[B" (.ref b) ∧ Arv Z h b kb .byte (own_ln la) ((own_nm la c0 c1 c2).map Value.int) (.int (0 : Int32)) ∧ Exa Z h b "[B"
set_option maxRecDepth 65536 in
set_option maxHeartbeats 40000000 in
theorem own_rnm (l : Launch) (Z : State) (a0 : Array Value) (hw : ∀ d ∈ tables_1, d.before a0 Z = true) (ws : List Jvm.Cond) (la c0 c1 c2 cp : Int32) (h0 : Heap) (n0 : Nat) (Z0 : n0 ≤ h0.size) (q0 : own_C c0) (q1 : own_C c1) (q2 : own_C c2) (S_cp : Sta Z h0 "java/lang/String" "COMPACT_STRINGS" "Z" (.int cp)) (hcp : ¬ cp = 0) :
    MetFree l (⟨"com/example/events_in_order/eventsinorder/model/TopicEqualsPinLaw", "name", "(ICCC)Ljava/lang/String;"⟩ : MethodName) (head1 (Jvm.Cond.code (⟨"com/example/events_in_order/eventsinorder/model/TopicEqualsPinLaw", "name", "(ICCC)Ljava/lang/String;"⟩ : MethodName) method_3_code 4 (some (.object "java/lang/String")) :: ws) ({ frames := 4, cells := 3, slots := 10, locals := 66 } : Room)) (fun au Uu => au = #[(.int la), (.int c0), (.int c1), (.int c2)] ∧ Z.Warmed39 Uu.vm ∧ Uu.heap = h0) (fun _ _ _ _ _ => True) (fun _ Uu ou Uw => ∃ vu Lu, ou = .returned vu ∧ Q_own_rnm Z la c0 c1 c2 h0 n0 vu Uw.heap Lu ∧ FrameEnd Uu ou Uw Lu ({ frames := 4, cells := 3, slots := 10, locals := 66 } : Room).cells ({ frames := 4, cells := 3, slots := 10, locals := 66 } : Room).slots) := by
  refine MetFree.of_bodySF (plainFor_of_name (by first | (simp [plainName, overriddenIn]; done) | decide +kernel)) hisR ?_
  intro p e s m args below meth c s₁ Bd hml0 hP hK
  obtain ⟨rfl, hZ, hh⟩ := hP
  have hx := Bd.exec
  have hby := Bd.bytes
  have hlk := Bd.notSynchronized
  have hml : c.maxLocals = 4 := hml0
  have hown : s.vm.findClass "com/example/events_in_order/eventsinorder/model/TopicEqualsPinLaw" = some m.cls := findClass_of_methodNamed Bd.named
  have hnm := (name_of_methodNamed Bd.named Bd.method).1
  have X0 : Stand p l e ({ frames := 4, cells := 3, slots := 10, locals := 66 } : Room) s m #[(.int la), (.int c0), (.int c1), (.int c2)] below meth c s₁ [] 0 0 := Stand.of_body Bd
  have e0 : s₁.heap = h0 := by rw [← hh, Bd.state]; rfl
  have N0 := Fr.nil n0
  show own_Ends p e below s₁ (entryFrame m #[(.int la), (.int c0), (.int c1), (.int c2)] 4) (fun ou Uw => ∃ vu Lu, ou = .returned vu ∧ Q_own_rnm Z la c0 c1 c2 h0 n0 vu Uw.heap Lu ∧ FrameEnd s ou Uw Lu ({ frames := 4, cells := 3, slots := 10, locals := 66 } : Room).cells ({ frames := 4, cells := 3, slots := 10, locals := 66 } : Room).slots)
  refine own_start (g' := (mkF m 0 #[iv la, iv c0, iv c1, iv c2] [])) (by first | (simp [entryFrame, mkF, argsToLocals, Value.category, iv, rv]; done) | rfl) ?_
  refine own_go (T' := s₁) (g' := (mkF m 1 #[iv la, iv c0, iv c1, iv c2] [(.int la)])) (fun t k => XS.iloadN X0.here hx rfl (hb hby own_d_method_3_code_0) rfl k) ?_
  refine own_go (T' := s₁) (g' := (mkF m 2 #[iv la, iv c0, iv c1, iv c2] [(.int (1 : Int32)), (.int la)])) (fun t k => XS.iconst X0.here hx rfl (hb hby own_d_method_3_code_1) k) ?_
  by_cases hc178 : la = (1 : Int32)
  · refine own_go (T' := s₁) (g' := (mkF m 5 #[iv la, iv c0, iv c1, iv c2] [])) (fun t k => XS.icmpNo X0.here hx rfl (hb hby own_d_method_3_code_2) rfl (teq hc178).2 k) ?_
    obtain ⟨T179, h179, X179, e179, E179, A179, D179, -, st179⟩ := newO X0 hx hZ hown (hw _ (List.mem_of_getElem? (i := 8) rfl)) (hw _ (List.mem_of_getElem? (i := 9) rfl)) (hw _ (List.mem_of_getElem? (i := 10) rfl)) e0 (g := (mkF m 5 #[iv la, iv c0, iv c1, iv c2] [])) rfl (hb hby own_d_method_3_code_5) (by decide) (by decide)
    obtain ⟨b179, g179⟩ : ∃ z, z = h0.size := ⟨_, rfl⟩
    rw [← g179] at A179 D179 st179
    have gn179 : n0 ≤ b179 := Nat.le_trans Z0 (Nat.le_of_eq g179.symm)
    have hz179 : n0 ≤ h179.size := Nat.le_trans Z0 E179.1
    have o179 : h0.size ≤ b179 := Nat.le_trans (Keep.refl h0 []).1 (Nat.le_of_eq g179.symm)
    have K179 := (Keep.refl h0 []).ext E179
    have c180 := S_cp.ext E179
    have F179_coder : Fld Z h179 b179 "java/lang/String" "coder" "B" (.int (0 : Int32)) := D179 (Or.inr (hw _ (List.mem_of_getElem? (i := 35) rfl))) (ty := .byte) (by decide)
    have F179_value : Fld Z h179 b179 "java/lang/String" "value" "[B" .null := D179 (Or.inr (hw _ (List.mem_of_getElem? (i := 37) rfl))) (ty := (.array .byte)) (by decide)
    refine own_go (T' := T179) (g' := (mkF m 8 #[iv la, iv c0, iv c1, iv c2] [(.ref b179)])) (st179) ?_
    refine own_go (T' := T179) (g' := (mkF m 9 #[iv la, iv c0, iv c1, iv c2] [(.ref b179), (.ref b179)])) (fun t k => XS.dup X179.here hx rfl (hb hby own_d_method_3_code_8) rfl rfl k) ?_
    refine own_go (T' := T179) (g' := (mkF m 10 #[iv la, iv c0, iv c1, iv c2] [(.int (1 : Int32)), (.ref b179), (.ref b179)])) (fun t k => XS.iconst X179.here hx rfl (hb hby own_d_method_3_code_9) k) ?_
    obtain ⟨T181, h181, k181, X181, e181, E181, A181, st181⟩ := newP X179 hx hZ (hw _ (List.mem_of_getElem? (i := 11) rfl)) e179 (g := (mkF m 10 #[iv la, iv c0, iv c1, iv c2] [(.int (1 : Int32)), (.ref b179), (.ref b179)])) rfl (hb hby own_d_method_3_code_10) rfl (by decide) (cap := 1) (by decide) (by decide) (by decide) (by decide)
    obtain ⟨b181, g181⟩ : ∃ z, z = h179.size := ⟨_, rfl⟩
    rw [← g181] at A181 st181
    have gn181 : n0 ≤ b181 := Nat.le_trans hz179 (Nat.le_of_eq g181.symm)
    have hz181 : n0 ≤ h181.size := Nat.le_trans hz179 E181.1
    have o181 : h0.size ≤ b181 := Nat.le_trans K179.1 (Nat.le_of_eq g181.symm)
    have K181 := K179.ext E181
    have c182 := c180.ext E181
    have c183 := A179.ext E181
    have ne184 : b179 ≠ b181 := Nat.ne_of_lt (Nat.lt_of_lt_of_le A179.lt (Nat.le_of_eq g181.symm))
    have c185 := F179_coder.ext E181
    have c186 := F179_value.ext E181
    have V181 : Arv Z h181 b181 k181 .char (1 : Int32) [(.int (0 : Int32))] (.int (0 : Int32)) := (Arv.new A181 (by decide)).pad (pad_rep [] (.int (0 : Int32)) 1)
    refine own_go (T' := T181) (g' := (mkF m 12 #[iv la, iv c0, iv c1, iv c2] [(.ref b181), (.ref b179), (.ref b179)])) (st181) ?_
    refine own_go (T' := T181) (g' := (mkF m 13 #[iv la, iv c0, iv c1, iv c2] [(.ref b181), (.ref b181), (.ref b179), (.ref b179)])) (fun t k => XS.dup X181.here hx rfl (hb hby own_d_method_3_code_12) rfl rfl k) ?_
    refine own_go (T' := T181) (g' := (mkF m 14 #[iv la, iv c0, iv c1, iv c2] [(.int (0 : Int32)), (.ref b181), (.ref b181), (.ref b179), (.ref b179)])) (fun t k => XS.iconst X181.here hx rfl (hb hby own_d_method_3_code_13) k) ?_
    refine own_go (T' := T181) (g' := (mkF m 15 #[iv la, iv c0, iv c1, iv c2] [(.int c0), (.int (0 : Int32)), (.ref b181), (.ref b181), (.ref b179), (.ref b179)])) (fun t k => XS.iloadN X181.here hx rfl (hb hby own_d_method_3_code_14) rfl k) ?_
    obtain ⟨cl187, Ar187, q187, Sz187, Nn187, Ha187, Ga187⟩ := id V181
    have hin187 : ¬ ((0 : Int32) < 0 ∨ cl187.slots.size ≤ ((0 : Int32)).toNatClampNeg) := inb_of Sz187 ⟨by decide, by decide⟩
    obtain ⟨T187, h187, X187, e187, W187, st187⟩ := stC X181 hx hZ e181 Ar187 (j := (0 : Int32)) hin187 (g := (mkF m 15 #[iv la, iv c0, iv c1, iv c2] [(.int c0), (.int (0 : Int32)), (.ref b181), (.ref b181), (.ref b179), (.ref b179)])) rfl rfl (hb hby own_d_method_3_code_15)
    rw [own_nc q0] at W187
    have hz187 : n0 ≤ h187.size := Nat.le_trans hz181 (Keep.of_wr W187).1
    have N187 := Fr.snoc X187 N0 gn181
    have K187 := K181.wr W187 (Or.inr o181)
    have c188 := c182.wr W187
    have c189 := c183.wr W187
    have c190 := c185.other W187 (Or.inl ne184)
    have c191 := c186.other W187 (Or.inl ne184)
    have V187 : Arv Z h187 b181 k181 .char (1 : Int32) [(.int c0)] (.int (0 : Int32)) := Arv.set Ar187 q187 Sz187 Nn187 Ha187 Ga187 (own_fitc q0) W187 0 rfl (Nat.le_of_ble_eq_true rfl)
    refine own_go (T' := T187) (g' := (mkF m 16 #[iv la, iv c0, iv c1, iv c2] [(.ref b181), (.ref b179), (.ref b179)])) (st187) ?_
    obtain ⟨_, _, ⟨T193, L193, k193, n193⟩, -, X193, ⟨Lc193, hQ193, l193, y193, z193⟩, st193⟩ := X187.specialBack hx (y := (⟨"java/lang/String", "<init>", "([C)V"⟩ : MethodName)) rfl hown (mvT hZ (hw _ (List.mem_of_getElem? (i := 12) rfl))) (mvT hZ (hw _ (List.mem_of_getElem? (i := 13) rfl))) (mvT hZ (hw _ (List.mem_of_getElem? (i := 14) rfl))) (by decide) (backOf (W := 1) (own_rsi_1 l Z a0 hw [] b179 b181 k181 cp c0 h187 n0 hz187 c189 gn179 c190 c191 V187 (Ne.symm ne184) c188 hcp q0) hZ (hw _ (List.mem_of_getElem? (i := 14) rfl)) (hw _ (List.mem_of_getElem? (i := 10) rfl)) (by decide) (by decide)) (g := (mkF m 16 #[iv la, iv c0, iv c1, iv c2] [(.ref b181), (.ref b179), (.ref b179)])) rfl (by rw [hml]; rfl) (Steps.refl _) (a := b179) (argsL := [(.ref b181)]) (rest := [(.ref b179)]) (lenOf own_pd4 rfl) rfl (by show 2 * 0 + _ ≤ _; exact Nat.le_of_eq rfl) (hb hby own_d_method_3_code_16) (fun _ _ => ⟨rfl, e187, (by decide : 2 + 1 ≤ _), (by decide : 5 + 1 ≤ _)⟩)
    dsimp only [Pt.U, Pt.locs, Pt.cells, Pt.slots] at X193 l193 y193 z193 st193 hQ193
    subst l193 y193 z193
    obtain ⟨b_193, k_193, rfl, N193q, ob_193, K_193, e_193, c_193, v_193, V_193, B_193⟩ := hQ193
    have N193 := Fr.app N187 N193q
    have nq194 : b179 ≠ b_193 := Nat.ne_of_lt (Nat.lt_of_lt_of_le c189.lt ob_193)
    have nq195 : b181 ≠ b_193 := Nat.ne_of_lt (Nat.lt_of_lt_of_le V187.lt ob_193)
    have oo_193 : h0.size ≤ b_193 := Nat.le_trans K187.1 ob_193
    have c196 := own_sta_keep c188 K_193 (own_nsS (own_nse c189) own_ns0)
    have c199 := c189.keep K_193
    have c205 := V187.keep K_193 (ninS (Ne.symm ne184) nin0)
    have hz193 : n0 ≤ T193.heap.size := Nat.le_trans hz187 K_193.1
    have K193 := Keep.trans K187 K_193 (allS (P := fun x => x ∈ _ ∨ h0.size ≤ x) (Or.inr o179) all0)
    refine own_go (T' := T193) (g' := (mkF m 19 #[iv la, iv c0, iv c1, iv c2] [(.ref b179)])) (fun t k => st193.trans k) ?_
    exact own_ret X193 hlk hx Bd.returns rfl (Or.inr (Or.inr (Or.inr (Or.inr ⟨rfl, rfl, rfl⟩)))) (hb hby own_d_method_3_code_19) (by refine ⟨b179, b_193, k_193, rfl, N193, o179, oo_193, K193, e_193, c_193, v_193, ?_, B_193⟩; unfold own_ln own_nm; rw [if_pos hc178, if_pos hc178]; exact V_193) (by decide) (by decide)
  · refine own_go (T' := s₁) (g' := (mkF m 20 #[iv la, iv c0, iv c1, iv c2] [])) (fun t k => XS.icmpYes X0.here hx rfl (pc0 := 2) (pc' := 20) rfl (hb hby own_d_method_3_code_2) rfl (feq hc178).2 (by decide) (by decide) k) ?_
    refine own_go (T' := s₁) (g' := (mkF m 21 #[iv la, iv c0, iv c1, iv c2] [(.int la)])) (fun t k => XS.iloadN X0.here hx rfl (hb hby own_d_method_3_code_20) rfl k) ?_
    refine own_go (T' := s₁) (g' := (mkF m 22 #[iv la, iv c0, iv c1, iv c2] [(.int (2 : Int32)), (.int la)])) (fun t k => XS.iconst X0.here hx rfl (hb hby own_d_method_3_code_21) k) ?_
    by_cases hc206 : la = (2 : Int32)
    · refine own_go (T' := s₁) (g' := (mkF m 25 #[iv la, iv c0, iv c1, iv c2] [])) (fun t k => XS.icmpNo X0.here hx rfl (hb hby own_d_method_3_code_22) rfl (teq hc206).2 k) ?_
      obtain ⟨T207, h207, X207, e207, E207, A207, D207, -, st207⟩ := newO X0 hx hZ hown (hw _ (List.mem_of_getElem? (i := 8) rfl)) (hw _ (List.mem_of_getElem? (i := 9) rfl)) (hw _ (List.mem_of_getElem? (i := 10) rfl)) e0 (g := (mkF m 25 #[iv la, iv c0, iv c1, iv c2] [])) rfl (hb hby own_d_method_3_code_25) (by decide) (by decide)
      obtain ⟨b207, g207⟩ : ∃ z, z = h0.size := ⟨_, rfl⟩
      rw [← g207] at A207 D207 st207
      have gn207 : n0 ≤ b207 := Nat.le_trans Z0 (Nat.le_of_eq g207.symm)
      have hz207 : n0 ≤ h207.size := Nat.le_trans Z0 E207.1
      have o207 : h0.size ≤ b207 := Nat.le_trans (Keep.refl h0 []).1 (Nat.le_of_eq g207.symm)
      have K207 := (Keep.refl h0 []).ext E207
      have c208 := S_cp.ext E207
      have F207_coder : Fld Z h207 b207 "java/lang/String" "coder" "B" (.int (0 : Int32)) := D207 (Or.inr (hw _ (List.mem_of_getElem? (i := 35) rfl))) (ty := .byte) (by decide)
      have F207_value : Fld Z h207 b207 "java/lang/String" "value" "[B" .null := D207 (Or.inr (hw _ (List.mem_of_getElem? (i := 37) rfl))) (ty := (.array .byte)) (by decide)
      refine own_go (T' := T207) (g' := (mkF m 28 #[iv la, iv c0, iv c1, iv c2] [(.ref b207)])) (st207) ?_
      refine own_go (T' := T207) (g' := (mkF m 29 #[iv la, iv c0, iv c1, iv c2] [(.ref b207), (.ref b207)])) (fun t k => XS.dup X207.here hx rfl (hb hby own_d_method_3_code_28) rfl rfl k) ?_
      refine own_go (T' := T207) (g' := (mkF m 30 #[iv la, iv c0, iv c1, iv c2] [(.int (2 : Int32)), (.ref b207), (.ref b207)])) (fun t k => XS.iconst X207.here hx rfl (hb hby own_d_method_3_code_29) k) ?_
      obtain ⟨T209, h209, k209, X209, e209, E209, A209, st209⟩ := newP X207 hx hZ (hw _ (List.mem_of_getElem? (i := 11) rfl)) e207 (g := (mkF m 30 #[iv la, iv c0, iv c1, iv c2] [(.int (2 : Int32)), (.ref b207), (.ref b207)])) rfl (hb hby own_d_method_3_code_30) rfl (by decide) (cap := 2) (by decide) (by decide) (by decide) (by decide)
      obtain ⟨b209, g209⟩ : ∃ z, z = h207.size := ⟨_, rfl⟩
      rw [← g209] at A209 st209
      have gn209 : n0 ≤ b209 := Nat.le_trans hz207 (Nat.le_of_eq g209.symm)
      have hz209 : n0 ≤ h209.size := Nat.le_trans hz207 E209.1
      have o209 : h0.size ≤ b209 := Nat.le_trans K207.1 (Nat.le_of_eq g209.symm)
      have K209 := K207.ext E209
      have c210 := c208.ext E209
      have c211 := A207.ext E209
      have ne212 : b207 ≠ b209 := Nat.ne_of_lt (Nat.lt_of_lt_of_le A207.lt (Nat.le_of_eq g209.symm))
      have c213 := F207_coder.ext E209
      have c214 := F207_value.ext E209
      have V209 : Arv Z h209 b209 k209 .char (2 : Int32) [(.int (0 : Int32)), (.int (0 : Int32))] (.int (0 : Int32)) := (Arv.new A209 (by decide)).pad (pad_rep [] (.int (0 : Int32)) 2)
      refine own_go (T' := T209) (g' := (mkF m 32 #[iv la, iv c0, iv c1, iv c2] [(.ref b209), (.ref b207), (.ref b207)])) (st209) ?_
      refine own_go (T' := T209) (g' := (mkF m 33 #[iv la, iv c0, iv c1, iv c2] [(.ref b209), (.ref b209), (.ref b207), (.ref b207)])) (fun t k => XS.dup X209.here hx rfl (hb hby own_d_method_3_code_32) rfl rfl k) ?_
      refine own_go (T' := T209) (g' := (mkF m 34 #[iv la, iv c0, iv c1, iv c2] [(.int (0 : Int32)), (.ref b209), (.ref b209), (.ref b207), (.ref b207)])) (fun t k => XS.iconst X209.here hx rfl (hb hby own_d_method_3_code_33) k) ?_
      refine own_go (T' := T209) (g' := (mkF m 35 #[iv la, iv c0, iv c1, iv c2] [(.int c0), (.int (0 : Int32)), (.ref b209), (.ref b209), (.ref b207), (.ref b207)])) (fun t k => XS.iloadN X209.here hx rfl (hb hby own_d_method_3_code_34) rfl k) ?_
      obtain ⟨cl215, Ar215, q215, Sz215, Nn215, Ha215, Ga215⟩ := id V209
      have hin215 : ¬ ((0 : Int32) < 0 ∨ cl215.slots.size ≤ ((0 : Int32)).toNatClampNeg) := inb_of Sz215 ⟨by decide, by decide⟩
      obtain ⟨T215, h215, X215, e215, W215, st215⟩ := stC X209 hx hZ e209 Ar215 (j := (0 : Int32)) hin215 (g := (mkF m 35 #[iv la, iv c0, iv c1, iv c2] [(.int c0), (.int (0 : Int32)), (.ref b209), (.ref b209), (.ref b207), (.ref b207)])) rfl rfl (hb hby own_d_method_3_code_35)
      rw [own_nc q0] at W215
      have hz215 : n0 ≤ h215.size := Nat.le_trans hz209 (Keep.of_wr W215).1
      have N215 := Fr.snoc X215 N0 gn209
      have K215 := K209.wr W215 (Or.inr o209)
      have c216 := c210.wr W215
      have c217 := c211.wr W215
      have c218 := c213.other W215 (Or.inl ne212)
      have c219 := c214.other W215 (Or.inl ne212)
      have V215 : Arv Z h215 b209 k209 .char (2 : Int32) [(.int c0), (.int (0 : Int32))] (.int (0 : Int32)) := Arv.set Ar215 q215 Sz215 Nn215 Ha215 Ga215 (own_fitc q0) W215 0 rfl (Nat.le_of_ble_eq_true rfl)
      refine own_go (T' := T215) (g' := (mkF m 36 #[iv la, iv c0, iv c1, iv c2] [(.ref b209), (.ref b207), (.ref b207)])) (st215) ?_
      refine own_go (T' := T215) (g' := (mkF m 37 #[iv la, iv c0, iv c1, iv c2] [(.ref b209), (.ref b209), (.ref b207), (.ref b207)])) (fun t k => XS.dup X215.here hx rfl (hb hby own_d_method_3_code_36) rfl rfl k) ?_
      refine own_go (T' := T215) (g' := (mkF m 38 #[iv la, iv c0, iv c1, iv c2] [(.int (1 : Int32)), (.ref b209), (.ref b209), (.ref b207), (.ref b207)])) (fun t k => XS.iconst X215.here hx rfl (hb hby own_d_method_3_code_37) k) ?_
      refine own_go (T' := T215) (g' := (mkF m 39 #[iv la, iv c0, iv c1, iv c2] [(.int c1), (.int (1 : Int32)), (.ref b209), (.ref b209), (.ref b207), (.ref b207)])) (fun t k => XS.iloadN X215.here hx rfl (hb hby own_d_method_3_code_38) rfl k) ?_
      obtain ⟨cl221, Ar221, q221, Sz221, Nn221, Ha221, Ga221⟩ := id V215
      have hin221 : ¬ ((1 : Int32) < 0 ∨ cl221.slots.size ≤ ((1 : Int32)).toNatClampNeg) := inb_of Sz221 ⟨by decide, by decide⟩
      obtain ⟨T221, h221, X221, e221, W221, st221⟩ := stC X215 hx hZ e215 Ar221 (j := (1 : Int32)) hin221 (g := (mkF m 39 #[iv la, iv c0, iv c1, iv c2] [(.int c1), (.int (1 : Int32)), (.ref b209), (.ref b209), (.ref b207), (.ref b207)])) rfl rfl (hb hby own_d_method_3_code_39)
      rw [own_nc q1] at W221
      have hz221 : n0 ≤ h221.size := Nat.le_trans hz215 (Keep.of_wr W221).1
      have N221 := Fr.snoc X221 N215 gn209
      have K221 := K215.wr W221 (Or.inr o209)
      have c222 := c216.wr W221
      have c223 := c217.wr W221
      have c224 := c218.other W221 (Or.inl ne212)
      have c225 := c219.other W221 (Or.inl ne212)
      have V221 : Arv Z h221 b209 k209 .char (2 : Int32) [(.int c0), (.int c1)] (.int (0 : Int32)) := Arv.set Ar221 q221 Sz221 Nn221 Ha221 Ga221 (own_fitc q1) W221 1 rfl (Nat.le_of_ble_eq_true rfl)
      refine own_go (T' := T221) (g' := (mkF m 40 #[iv la, iv c0, iv c1, iv c2] [(.ref b209), (.ref b207), (.ref b207)])) (st221) ?_
      obtain ⟨_, _, ⟨T227, L227, k227, n227⟩, -, X227, ⟨Lc227, hQ227, l227, y227, z227⟩, st227⟩ := X221.specialBack hx (y := (⟨"java/lang/String", "<init>", "([C)V"⟩ : MethodName)) rfl hown (mvT hZ (hw _ (List.mem_of_getElem? (i := 12) rfl))) (mvT hZ (hw _ (List.mem_of_getElem? (i := 13) rfl))) (mvT hZ (hw _ (List.mem_of_getElem? (i := 14) rfl))) (by decide) (backOf (W := 1) (own_rsi_2 l Z a0 hw [] b207 b209 k209 cp c0 c1 h221 n0 hz221 c223 gn207 c224 c225 V221 (Ne.symm ne212) c222 hcp q0 q1) hZ (hw _ (List.mem_of_getElem? (i := 14) rfl)) (hw _ (List.mem_of_getElem? (i := 10) rfl)) (by decide) (by decide)) (g := (mkF m 40 #[iv la, iv c0, iv c1, iv c2] [(.ref b209), (.ref b207), (.ref b207)])) rfl (by rw [hml]; rfl) (Steps.refl _) (a := b207) (argsL := [(.ref b209)]) (rest := [(.ref b207)]) (lenOf own_pd4 rfl) rfl (by show 2 * 0 + _ ≤ _; exact Nat.le_of_eq rfl) (hb hby own_d_method_3_code_40) (fun _ _ => ⟨rfl, e221, (by decide : 2 + 1 ≤ _), (by decide : 6 + 2 ≤ _)⟩)
      dsimp only [Pt.U, Pt.locs, Pt.cells, Pt.slots] at X227 l227 y227 z227 st227 hQ227
      subst l227 y227 z227
      obtain ⟨b_227, k_227, rfl, N227q, ob_227, K_227, e_227, c_227, v_227, V_227, B_227⟩ := hQ227
      have N227 := Fr.app N221 N227q
      have nq228 : b207 ≠ b_227 := Nat.ne_of_lt (Nat.lt_of_lt_of_le c223.lt ob_227)
      have nq229 : b209 ≠ b_227 := Nat.ne_of_lt (Nat.lt_of_lt_of_le V221.lt ob_227)
      have oo_227 : h0.size ≤ b_227 := Nat.le_trans K221.1 ob_227
      have c230 := own_sta_keep c222 K_227 (own_nsS (own_nse c223) own_ns0)
      have c233 := c223.keep K_227
      have c239 := V221.keep K_227 (ninS (Ne.symm ne212) nin0)
      have hz227 : n0 ≤ T227.heap.size := Nat.le_trans hz221 K_227.1
      have K227 := Keep.trans K221 K_227 (allS (P := fun x => x ∈ _ ∨ h0.size ≤ x) (Or.inr o207) all0)
      refine own_go (T' := T227) (g' := (mkF m 43 #[iv la, iv c0, iv c1, iv c2] [(.ref b207)])) (fun t k => st227.trans k) ?_
      exact own_ret X227 hlk hx Bd.returns rfl (Or.inr (Or.inr (Or.inr (Or.inr ⟨rfl, rfl, rfl⟩)))) (hb hby own_d_method_3_code_43) (by refine ⟨b207, b_227, k_227, rfl, N227, o207, oo_227, K227, e_227, c_227, v_227, ?_, B_227⟩; unfold own_ln own_nm; rw [if_neg hc178, if_pos hc206, if_neg hc178, if_pos hc206]; exact V_227) (by decide) (by decide)
    · refine own_go (T' := s₁) (g' := (mkF m 44 #[iv la, iv c0, iv c1, iv c2] [])) (fun t k => XS.icmpYes X0.here hx rfl (pc0 := 22) (pc' := 44) rfl (hb hby own_d_method_3_code_22) rfl (feq hc206).2 (by decide) (by decide) k) ?_
      obtain ⟨T240, h240, X240, e240, E240, A240, D240, -, st240⟩ := newO X0 hx hZ hown (hw _ (List.mem_of_getElem? (i := 8) rfl)) (hw _ (List.mem_of_getElem? (i := 9) rfl)) (hw _ (List.mem_of_getElem? (i := 10) rfl)) e0 (g := (mkF m 44 #[iv la, iv c0, iv c1, iv c2] [])) rfl (hb hby own_d_method_3_code_44) (by decide) (by decide)
      obtain ⟨b240, g240⟩ : ∃ z, z = h0.size := ⟨_, rfl⟩
      rw [← g240] at A240 D240 st240
      have gn240 : n0 ≤ b240 := Nat.le_trans Z0 (Nat.le_of_eq g240.symm)
      have hz240 : n0 ≤ h240.size := Nat.le_trans Z0 E240.1
      have o240 : h0.size ≤ b240 := Nat.le_trans (Keep.refl h0 []).1 (Nat.le_of_eq g240.symm)
      have K240 := (Keep.refl h0 []).ext E240
      have c241 := S_cp.ext E240
      have F240_coder : Fld Z h240 b240 "java/lang/String" "coder" "B" (.int (0 : Int32)) := D240 (Or.inr (hw _ (List.mem_of_getElem? (i := 35) rfl))) (ty := .byte) (by decide)
      have F240_value : Fld Z h240 b240 "java/lang/String" "value" "[B" .null := D240 (Or.inr (hw _ (List.mem_of_getElem? (i := 37) rfl))) (ty := (.array .byte)) (by decide)
      refine own_go (T' := T240) (g' := (mkF m 47 #[iv la, iv c0, iv c1, iv c2] [(.ref b240)])) (st240) ?_
      refine own_go (T' := T240) (g' := (mkF m 48 #[iv la, iv c0, iv c1, iv c2] [(.ref b240), (.ref b240)])) (fun t k => XS.dup X240.here hx rfl (hb hby own_d_method_3_code_47) rfl rfl k) ?_
      refine own_go (T' := T240) (g' := (mkF m 49 #[iv la, iv c0, iv c1, iv c2] [(.int (3 : Int32)), (.ref b240), (.ref b240)])) (fun t k => XS.iconst X240.here hx rfl (hb hby own_d_method_3_code_48) k) ?_
      obtain ⟨T242, h242, k242, X242, e242, E242, A242, st242⟩ := newP X240 hx hZ (hw _ (List.mem_of_getElem? (i := 11) rfl)) e240 (g := (mkF m 49 #[iv la, iv c0, iv c1, iv c2] [(.int (3 : Int32)), (.ref b240), (.ref b240)])) rfl (hb hby own_d_method_3_code_49) rfl (by decide) (cap := 3) (by decide) (by decide) (by decide) (by decide)
      obtain ⟨b242, g242⟩ : ∃ z, z = h240.size := ⟨_, rfl⟩
      rw [← g242] at A242 st242
      have gn242 : n0 ≤ b242 := Nat.le_trans hz240 (Nat.le_of_eq g242.symm)
      have hz242 : n0 ≤ h242.size := Nat.le_trans hz240 E242.1
      have o242 : h0.size ≤ b242 := Nat.le_trans K240.1 (Nat.le_of_eq g242.symm)
      have K242 := K240.ext E242
      have c243 := c241.ext E242
      have c244 := A240.ext E242
      have ne245 : b240 ≠ b242 := Nat.ne_of_lt (Nat.lt_of_lt_of_le A240.lt (Nat.le_of_eq g242.symm))
      have c246 := F240_coder.ext E242
      have c247 := F240_value.ext E242
      have V242 : Arv Z h242 b242 k242 .char (3 : Int32) [(.int (0 : Int32)), (.int (0 : Int32)), (.int (0 : Int32))] (.int (0 : Int32)) := (Arv.new A242 (by decide)).pad (pad_rep [] (.int (0 : Int32)) 3)
      refine own_go (T' := T242) (g' := (mkF m 51 #[iv la, iv c0, iv c1, iv c2] [(.ref b242), (.ref b240), (.ref b240)])) (st242) ?_
      refine own_go (T' := T242) (g' := (mkF m 52 #[iv la, iv c0, iv c1, iv c2] [(.ref b242), (.ref b242), (.ref b240), (.ref b240)])) (fun t k => XS.dup X242.here hx rfl (hb hby own_d_method_3_code_51) rfl rfl k) ?_
      refine own_go (T' := T242) (g' := (mkF m 53 #[iv la, iv c0, iv c1, iv c2] [(.int (0 : Int32)), (.ref b242), (.ref b242), (.ref b240), (.ref b240)])) (fun t k => XS.iconst X242.here hx rfl (hb hby own_d_method_3_code_52) k) ?_
      refine own_go (T' := T242) (g' := (mkF m 54 #[iv la, iv c0, iv c1, iv c2] [(.int c0), (.int (0 : Int32)), (.ref b242), (.ref b242), (.ref b240), (.ref b240)])) (fun t k => XS.iloadN X242.here hx rfl (hb hby own_d_method_3_code_53) rfl k) ?_
      obtain ⟨cl248, Ar248, q248, Sz248, Nn248, Ha248, Ga248⟩ := id V242
      have hin248 : ¬ ((0 : Int32) < 0 ∨ cl248.slots.size ≤ ((0 : Int32)).toNatClampNeg) := inb_of Sz248 ⟨by decide, by decide⟩
      obtain ⟨T248, h248, X248, e248, W248, st248⟩ := stC X242 hx hZ e242 Ar248 (j := (0 : Int32)) hin248 (g := (mkF m 54 #[iv la, iv c0, iv c1, iv c2] [(.int c0), (.int (0 : Int32)), (.ref b242), (.ref b242), (.ref b240), (.ref b240)])) rfl rfl (hb hby own_d_method_3_code_54)
      rw [own_nc q0] at W248
      have hz248 : n0 ≤ h248.size := Nat.le_trans hz242 (Keep.of_wr W248).1
      have N248 := Fr.snoc X248 N0 gn242
      have K248 := K242.wr W248 (Or.inr o242)
      have c249 := c243.wr W248
      have c250 := c244.wr W248
      have c251 := c246.other W248 (Or.inl ne245)
      have c252 := c247.other W248 (Or.inl ne245)
      have V248 : Arv Z h248 b242 k242 .char (3 : Int32) [(.int c0), (.int (0 : Int32)), (.int (0 : Int32))] (.int (0 : Int32)) := Arv.set Ar248 q248 Sz248 Nn248 Ha248 Ga248 (own_fitc q0) W248 0 rfl (Nat.le_of_ble_eq_true rfl)
      refine own_go (T' := T248) (g' := (mkF m 55 #[iv la, iv c0, iv c1, iv c2] [(.ref b242), (.ref b240), (.ref b240)])) (st248) ?_
      refine own_go (T' := T248) (g' := (mkF m 56 #[iv la, iv c0, iv c1, iv c2] [(.ref b242), (.ref b242), (.ref b240), (.ref b240)])) (fun t k => XS.dup X248.here hx rfl (hb hby own_d_method_3_code_55) rfl rfl k) ?_
      refine own_go (T' := T248) (g' := (mkF m 57 #[iv la, iv c0, iv c1, iv c2] [(.int (1 : Int32)), (.ref b242), (.ref b242), (.ref b240), (.ref b240)])) (fun t k => XS.iconst X248.here hx rfl (hb hby own_d_method_3_code_56) k) ?_
      refine own_go (T' := T248) (g' := (mkF m 58 #[iv la, iv c0, iv c1, iv c2] [(.int c1), (.int (1 : Int32)), (.ref b242), (.ref b242), (.ref b240), (.ref b240)])) (fun t k => XS.iloadN X248.here hx rfl (hb hby own_d_method_3_code_57) rfl k) ?_
      obtain ⟨cl254, Ar254, q254, Sz254, Nn254, Ha254, Ga254⟩ := id V248
      have hin254 : ¬ ((1 : Int32) < 0 ∨ cl254.slots.size ≤ ((1 : Int32)).toNatClampNeg) := inb_of Sz254 ⟨by decide, by decide⟩
      obtain ⟨T254, h254, X254, e254, W254, st254⟩ := stC X248 hx hZ e248 Ar254 (j := (1 : Int32)) hin254 (g := (mkF m 58 #[iv la, iv c0, iv c1, iv c2] [(.int c1), (.int (1 : Int32)), (.ref b242), (.ref b242), (.ref b240), (.ref b240)])) rfl rfl (hb hby own_d_method_3_code_58)
      rw [own_nc q1] at W254
      have hz254 : n0 ≤ h254.size := Nat.le_trans hz248 (Keep.of_wr W254).1
      have N254 := Fr.snoc X254 N248 gn242
      have K254 := K248.wr W254 (Or.inr o242)
      have c255 := c249.wr W254
      have c256 := c250.wr W254
      have c257 := c251.other W254 (Or.inl ne245)
      have c258 := c252.other W254 (Or.inl ne245)
      have V254 : Arv Z h254 b242 k242 .char (3 : Int32) [(.int c0), (.int c1), (.int (0 : Int32))] (.int (0 : Int32)) := Arv.set Ar254 q254 Sz254 Nn254 Ha254 Ga254 (own_fitc q1) W254 1 rfl (Nat.le_of_ble_eq_true rfl)
      refine own_go (T' := T254) (g' := (mkF m 59 #[iv la, iv c0, iv c1, iv c2] [(.ref b242), (.ref b240), (.ref b240)])) (st254) ?_
      refine own_go (T' := T254) (g' := (mkF m 60 #[iv la, iv c0, iv c1, iv c2] [(.ref b242), (.ref b242), (.ref b240), (.ref b240)])) (fun t k => XS.dup X254.here hx rfl (hb hby own_d_method_3_code_59) rfl rfl k) ?_
      refine own_go (T' := T254) (g' := (mkF m 61 #[iv la, iv c0, iv c1, iv c2] [(.int (2 : Int32)), (.ref b242), (.ref b242), (.ref b240), (.ref b240)])) (fun t k => XS.iconst X254.here hx rfl (hb hby own_d_method_3_code_60) k) ?_
      refine own_go (T' := T254) (g' := (mkF m 62 #[iv la, iv c0, iv c1, iv c2] [(.int c2), (.int (2 : Int32)), (.ref b242), (.ref b242), (.ref b240), (.ref b240)])) (fun t k => XS.iloadN X254.here hx rfl (hb hby own_d_method_3_code_61) rfl k) ?_
      obtain ⟨cl260, Ar260, q260, Sz260, Nn260, Ha260, Ga260⟩ := id V254
      have hin260 : ¬ ((2 : Int32) < 0 ∨ cl260.slots.size ≤ ((2 : Int32)).toNatClampNeg) := inb_of Sz260 ⟨by decide, by decide⟩
      obtain ⟨T260, h260, X260, e260, W260, st260⟩ := stC X254 hx hZ e254 Ar260 (j := (2 : Int32)) hin260 (g := (mkF m 62 #[iv la, iv c0, iv c1, iv c2] [(.int c2), (.int (2 : Int32)), (.ref b242), (.ref b242), (.ref b240), (.ref b240)])) rfl rfl (hb hby own_d_method_3_code_62)
      rw [own_nc q2] at W260
      have hz260 : n0 ≤ h260.size := Nat.le_trans hz254 (Keep.of_wr W260).1
      have N260 := Fr.snoc X260 N254 gn242
      have K260 := K254.wr W260 (Or.inr o242)
      have c261 := c255.wr W260
      have c262 := c256.wr W260
      have c263 := c257.other W260 (Or.inl ne245)
      have c264 := c258.other W260 (Or.inl ne245)
      have V260 : Arv Z h260 b242 k242 .char (3 : Int32) [(.int c0), (.int c1), (.int c2)] (.int (0 : Int32)) := Arv.set Ar260 q260 Sz260 Nn260 Ha260 Ga260 (own_fitc q2) W260 2 rfl (Nat.le_of_ble_eq_true rfl)
      refine own_go (T' := T260) (g' := (mkF m 63 #[iv la, iv c0, iv c1, iv c2] [(.ref b242), (.ref b240), (.ref b240)])) (st260) ?_
      obtain ⟨_, _, ⟨T266, L266, k266, n266⟩, -, X266, ⟨Lc266, hQ266, l266, y266, z266⟩, st266⟩ := X260.specialBack hx (y := (⟨"java/lang/String", "<init>", "([C)V"⟩ : MethodName)) rfl hown (mvT hZ (hw _ (List.mem_of_getElem? (i := 12) rfl))) (mvT hZ (hw _ (List.mem_of_getElem? (i := 13) rfl))) (mvT hZ (hw _ (List.mem_of_getElem? (i := 14) rfl))) (by decide) (backOf (W := 1) (own_rsi_3 l Z a0 hw [] b240 b242 k242 cp c0 c1 c2 h260 n0 hz260 c262 gn240 c263 c264 V260 (Ne.symm ne245) c261 hcp q0 q1 q2) hZ (hw _ (List.mem_of_getElem? (i := 14) rfl)) (hw _ (List.mem_of_getElem? (i := 10) rfl)) (by decide) (by decide)) (g := (mkF m 63 #[iv la, iv c0, iv c1, iv c2] [(.ref b242), (.ref b240), (.ref b240)])) rfl (by rw [hml]; rfl) (Steps.refl _) (a := b240) (argsL := [(.ref b242)]) (rest := [(.ref b240)]) (lenOf own_pd4 rfl) rfl (by show 2 * 0 + _ ≤ _; exact Nat.le_of_eq rfl) (hb hby own_d_method_3_code_63) (fun _ _ => ⟨rfl, e260, (by decide : 2 + 1 ≤ _), (by decide : 7 + 3 ≤ _)⟩)
      dsimp only [Pt.U, Pt.locs, Pt.cells, Pt.slots] at X266 l266 y266 z266 st266 hQ266
      subst l266 y266 z266
      obtain ⟨b_266, k_266, rfl, N266q, ob_266, K_266, e_266, c_266, v_266, V_266, B_266⟩ := hQ266
      have N266 := Fr.app N260 N266q
      have nq267 : b240 ≠ b_266 := Nat.ne_of_lt (Nat.lt_of_lt_of_le c262.lt ob_266)
      have nq268 : b242 ≠ b_266 := Nat.ne_of_lt (Nat.lt_of_lt_of_le V260.lt ob_266)
      have oo_266 : h0.size ≤ b_266 := Nat.le_trans K260.1 ob_266
      have c269 := own_sta_keep c261 K_266 (own_nsS (own_nse c262) own_ns0)
      have c272 := c262.keep K_266
      have c278 := V260.keep K_266 (ninS (Ne.symm ne245) nin0)
      have hz266 : n0 ≤ T266.heap.size := Nat.le_trans hz260 K_266.1
      have K266 := Keep.trans K260 K_266 (allS (P := fun x => x ∈ _ ∨ h0.size ≤ x) (Or.inr o240) all0)
      refine own_go (T' := T266) (g' := (mkF m 66 #[iv la, iv c0, iv c1, iv c2] [(.ref b240)])) (fun t k => st266.trans k) ?_
      exact own_ret X266 hlk hx Bd.returns rfl (Or.inr (Or.inr (Or.inr (Or.inr ⟨rfl, rfl, rfl⟩)))) (hb hby own_d_method_3_code_66) (by refine ⟨b240, b_266, k_266, rfl, N266, o240, oo_266, K266, e_266, c_266, v_266, ?_, B_266⟩; unfold own_ln own_nm; rw [if_neg hc178, if_neg hc206, if_neg hc178, if_neg hc206]; exact V_266) (by decide) (by decide)

theorem own_d_jdk_31_method_11_code_0 : decode jdk_31_method_11_code 0 = .ok (.aload_n 0, 1) := by decide +kernel
theorem own_d_jdk_31_method_11_code_1 : decode jdk_31_method_11_code 1 = .ok (.ifnonnull 12, 3) := by decide +kernel
theorem own_d_jdk_31_method_11_code_13 : decode jdk_31_method_11_code 13 = .ok (.aload_n 0, 1) := by decide +kernel
theorem own_d_jdk_31_method_11_code_14 : decode jdk_31_method_11_code 14 = .ok (.areturn, 1) := by decide +kernel
def Q_own_rrn (x : Addr) (h0 : Heap) (n0 : Nat) (v : Option Value) (h : Heap) (L : List Loc) : Prop := v = some (.ref x) ∧ L = [] ∧ h = h0
set_option maxRecDepth 65536 in
set_option maxHeartbeats 40000000 in
theorem own_rrn (l : Launch) (Z : State) (a0 : Array Value) (hw : ∀ d ∈ tables_1, d.before a0 Z = true) (ws : List Jvm.Cond) (x y : Addr) (h0 : Heap) (n0 : Nat) (Z0 : n0 ≤ h0.size)  :
    MetFree l (⟨"java/util/Objects", "requireNonNull", "(Ljava/lang/Object;Ljava/lang/String;)Ljava/lang/Object;"⟩ : MethodName) (head1 (Jvm.Cond.code (⟨"java/util/Objects", "requireNonNull", "(Ljava/lang/Object;Ljava/lang/String;)Ljava/lang/Object;"⟩ : MethodName) jdk_31_method_11_code 2 (some (.object "java/lang/Object")) :: ws) ({ frames := 0, cells := 0, slots := 0, locals := 0 } : Room)) (fun au Uu => au = #[(.ref x), (.ref y)] ∧ Z.Warmed39 Uu.vm ∧ Uu.heap = h0) (fun _ _ _ _ _ => True) (fun _ Uu ou Uw => ∃ vu Lu, ou = .returned vu ∧ Q_own_rrn x h0 n0 vu Uw.heap Lu ∧ FrameEnd Uu ou Uw Lu ({ frames := 0, cells := 0, slots := 0, locals := 0 } : Room).cells ({ frames := 0, cells := 0, slots := 0, locals := 0 } : Room).slots) := by
  refine MetFree.of_bodySF (plainFor_of_name (by first | (simp [plainName, overriddenIn]; done) | decide +kernel)) hisR ?_
  intro p e s m args below meth c s₁ Bd hml0 hP hK
  obtain ⟨rfl, hZ, hh⟩ := hP
  have hx := Bd.exec
  have hby := Bd.bytes
  have hlk := Bd.notSynchronized
  have hml : c.maxLocals = 2 := hml0
  have hown : s.vm.findClass "java/util/Objects" = some m.cls := findClass_of_methodNamed Bd.named
  have hnm := (name_of_methodNamed Bd.named Bd.method).1
  have X0 : Stand p l e ({ frames := 0, cells := 0, slots := 0, locals := 0 } : Room) s m #[(.ref x), (.ref y)] below meth c s₁ [] 0 0 := Stand.of_body Bd
  have e0 : s₁.heap = h0 := by rw [← hh, Bd.state]; rfl
  have N0 := Fr.nil n0
  show own_Ends p e below s₁ (entryFrame m #[(.ref x), (.ref y)] 2) (fun ou Uw => ∃ vu Lu, ou = .returned vu ∧ Q_own_rrn x h0 n0 vu Uw.heap Lu ∧ FrameEnd s ou Uw Lu ({ frames := 0, cells := 0, slots := 0, locals := 0 } : Room).cells ({ frames := 0, cells := 0, slots := 0, locals := 0 } : Room).slots)
  refine own_start (g' := (mkF m 0 #[rv x, rv y] [])) (by first | (simp [entryFrame, mkF, argsToLocals, Value.category, iv, rv]; done) | rfl) ?_
  refine own_go (T' := s₁) (g' := (mkF m 1 #[rv x, rv y] [(.ref x)])) (fun t k => XS.aloadN X0.here hx rfl (hb hby own_d_jdk_31_method_11_code_0) rfl rfl k) ?_
  refine own_go (T' := s₁) (g' := (mkF m 13 #[rv x, rv y] [])) (fun t k => XS.ifnonnullYes X0.here hx rfl (pc0 := 1) (pc' := 13) rfl (hb hby own_d_jdk_31_method_11_code_1) rfl (by decide) (by decide) k) ?_
  refine own_go (T' := s₁) (g' := (mkF m 14 #[rv x, rv y] [(.ref x)])) (fun t k => XS.aloadN X0.here hx rfl (hb hby own_d_jdk_31_method_11_code_13) rfl rfl k) ?_
  exact own_ret X0 hlk hx Bd.returns rfl (Or.inr (Or.inr (Or.inr (Or.inr ⟨rfl, rfl, rfl⟩)))) (hb hby own_d_jdk_31_method_11_code_14) ⟨rfl, rfl, e0⟩ (by decide) (by decide)

theorem own_d_jdk_42_method_55_code_0 : decode jdk_42_method_55_code 0 = .ok (.aload_n 0, 1) := by decide +kernel
theorem own_d_jdk_42_method_55_code_1 : decode jdk_42_method_55_code 1 = .ok (.getfield 9, 3) := by decide +kernel
theorem own_d_jdk_42_method_55_code_4 : decode jdk_42_method_55_code 4 = .ok (.arraylength, 1) := by decide +kernel
theorem own_d_jdk_42_method_55_code_5 : decode jdk_42_method_55_code 5 = .ok (.ifCond .ne 7, 3) := by decide +kernel
theorem own_d_jdk_42_method_55_code_12 : decode jdk_42_method_55_code 12 = .ok (.iconst 0, 1) := by decide +kernel
theorem own_d_jdk_42_method_55_code_13 : decode jdk_42_method_55_code 13 = .ok (.ireturn, 1) := by decide +kernel
def Q_own_rem  (h0 : Heap) (n0 : Nat) (v : Option Value) (h : Heap) (L : List Loc) : Prop := v = some (.int 0) ∧ L = [] ∧ h = h0
set_option maxRecDepth 65536 in
set_option maxHeartbeats 40000000 in
theorem own_rem (l : Launch) (Z : State) (a0 : Array Value) (hw : ∀ d ∈ tables_1, d.before a0 Z = true) (ws : List Jvm.Cond) (s_ b : Addr) (kb : ClassId) (z : Int32) (vs : List Value) (h0 : Heap) (n0 : Nat) (Z0 : n0 ≤ h0.size) (F_v : Fld Z h0 s_ "java/lang/String" "value" "[B" (.ref b)) (V_b : Arv Z h0 b kb .byte z vs (.int (0 : Int32))) (hz : ¬ z = 0) :
    MetFree l (⟨"java/lang/String", "isEmpty", "()Z"⟩ : MethodName) (head1 (Jvm.Cond.code (⟨"java/lang/String", "isEmpty", "()Z"⟩ : MethodName) jdk_42_method_55_code 1 (some .boolean) :: ws) ({ frames := 0, cells := 0, slots := 0, locals := 0 } : Room)) (fun au Uu => au = #[(.ref s_)] ∧ Z.Warmed39 Uu.vm ∧ Uu.heap = h0) (fun _ _ _ _ _ => True) (fun _ Uu ou Uw => ∃ vu Lu, ou = .returned vu ∧ Q_own_rem  h0 n0 vu Uw.heap Lu ∧ FrameEnd Uu ou Uw Lu ({ frames := 0, cells := 0, slots := 0, locals := 0 } : Room).cells ({ frames := 0, cells := 0, slots := 0, locals := 0 } : Room).slots) := by
  refine MetFree.of_bodySF (plainFor_of_name (by first | (simp [plainName, overriddenIn]; done) | decide +kernel)) hisR ?_
  intro p e s m args below meth c s₁ Bd hml0 hP hK
  obtain ⟨rfl, hZ, hh⟩ := hP
  have hx := Bd.exec
  have hby := Bd.bytes
  have hlk := Bd.notSynchronized
  have hml : c.maxLocals = 1 := hml0
  have hown : s.vm.findClass "java/lang/String" = some m.cls := findClass_of_methodNamed Bd.named
  have hnm := (name_of_methodNamed Bd.named Bd.method).1
  have X0 : Stand p l e ({ frames := 0, cells := 0, slots := 0, locals := 0 } : Room) s m #[(.ref s_)] below meth c s₁ [] 0 0 := Stand.of_body Bd
  have e0 : s₁.heap = h0 := by rw [← hh, Bd.state]; rfl
  have N0 := Fr.nil n0
  show own_Ends p e below s₁ (entryFrame m #[(.ref s_)] 1) (fun ou Uw => ∃ vu Lu, ou = .returned vu ∧ Q_own_rem  h0 n0 vu Uw.heap Lu ∧ FrameEnd s ou Uw Lu ({ frames := 0, cells := 0, slots := 0, locals := 0 } : Room).cells ({ frames := 0, cells := 0, slots := 0, locals := 0 } : Room).slots)
  refine own_start (g' := (mkF m 0 #[rv s_] [])) (by first | (simp [entryFrame, mkF, argsToLocals, Value.category, iv, rv]; done) | rfl) ?_
  refine own_go (T' := s₁) (g' := (mkF m 1 #[rv s_] [(.ref s_)])) (fun t k => XS.aloadN X0.here hx rfl (hb hby own_d_jdk_42_method_55_code_0) rfl rfl k) ?_
  obtain ⟨T279, X279, e279, st279⟩ := getF X0 hx hZ hown (host := "") (Or.inl (hw _ (List.mem_of_getElem? (i := 36) rfl))) Via.refl e0 F_v (g := (mkF m 1 #[rv s_] [(.ref s_)])) rfl rfl (hb hby own_d_jdk_42_method_55_code_1)
  refine own_go (T' := T279) (g' := (mkF m 4 #[rv s_] [(.ref b)])) (st279) ?_
  obtain ⟨cl280, Ar280, -, Sz280, Nn280, -, -⟩ := id V_b
  refine own_go (T' := T279) (g' := (mkF m 5 #[rv s_] [(.int z)])) (fun t k => X279.arraylength hx (by rw [e279]; exact Ar280.1) (State.isArrayOf_alike hZ.alike Ar280.2.1) (g := (mkF m 4 #[rv s_] [(.ref b)])) rfl rfl (hb hby own_d_jdk_42_method_55_code_4) _ (by rw [len_of Sz280 Nn280]; exact k)) ?_
  refine own_go (T' := T279) (g' := (mkF m 12 #[rv s_] [])) (fun t k => XS.ifYes X279.here hx rfl (pc0 := 5) (pc' := 12) rfl (hb hby own_d_jdk_42_method_55_code_5) rfl ((if0 _ _).trans (feq (hz : ¬ (z = (0 : Int32)))).2) (by decide) (by decide) k) ?_
  refine own_go (T' := T279) (g' := (mkF m 13 #[rv s_] [(.int (0 : Int32))])) (fun t k => XS.iconst X279.here hx rfl (hb hby own_d_jdk_42_method_55_code_12) k) ?_
  exact own_ret X279 hlk hx Bd.returns rfl (Or.inl ⟨rfl, Or.inr (Or.inl rfl), _, rfl⟩) (hb hby own_d_jdk_42_method_55_code_13) ⟨rfl, rfl, e279⟩ (by decide) (by decide)

theorem own_d_jdk_42_method_154_code_0 : decode jdk_42_method_154_code 0 = .ok (.getstatic 38, 3) := by decide +kernel
theorem own_d_jdk_42_method_154_code_3 : decode jdk_42_method_154_code 3 = .ok (.ifCond .eq 14, 3) := by decide +kernel
theorem own_d_jdk_42_method_154_code_6 : decode jdk_42_method_154_code 6 = .ok (.aload_n 0, 1) := by decide +kernel
theorem own_d_jdk_42_method_154_code_7 : decode jdk_42_method_154_code 7 = .ok (.getfield 15, 3) := by decide +kernel
theorem own_d_jdk_42_method_154_code_10 : decode jdk_42_method_154_code 10 = .ok (.ifCond .ne 7, 3) := by decide +kernel
theorem own_d_jdk_42_method_154_code_13 : decode jdk_42_method_154_code 13 = .ok (.iconst 1, 1) := by decide +kernel
theorem own_d_jdk_42_method_154_code_14 : decode jdk_42_method_154_code 14 = .ok (.goto 4, 3) := by decide +kernel
theorem own_d_jdk_42_method_154_code_18 : decode jdk_42_method_154_code 18 = .ok (.ireturn, 1) := by decide +kernel
def Q_own_ril  (h0 : Heap) (n0 : Nat) (v : Option Value) (h : Heap) (L : List Loc) : Prop := v = some (.int 1) ∧ L = [] ∧ h = h0
set_option maxRecDepth 65536 in
set_option maxHeartbeats 40000000 in
theorem own_ril (l : Launch) (Z : State) (a0 : Array Value) (hw : ∀ d ∈ tables_1, d.before a0 Z = true) (ws : List Jvm.Cond) (s_ : Addr) (cp : Int32) (h0 : Heap) (n0 : Nat) (Z0 : n0 ≤ h0.size) (F_c : Fld Z h0 s_ "java/lang/String" "coder" "B" (.int 0)) (S_cp : Sta Z h0 "java/lang/String" "COMPACT_STRINGS" "Z" (.int cp)) (hcp : ¬ cp = 0) :
    MetFree l (⟨"java/lang/String", "isLatin1", "()Z"⟩ : MethodName) (head1 (Jvm.Cond.code (⟨"java/lang/String", "isLatin1", "()Z"⟩ : MethodName) jdk_42_method_154_code 1 (some .boolean) :: ws) ({ frames := 0, cells := 0, slots := 0, locals := 0 } : Room)) (fun au Uu => au = #[(.ref s_)] ∧ Z.Warmed39 Uu.vm ∧ Uu.heap = h0) (fun _ _ _ _ _ => True) (fun _ Uu ou Uw => ∃ vu Lu, ou = .returned vu ∧ Q_own_ril  h0 n0 vu Uw.heap Lu ∧ FrameEnd Uu ou Uw Lu ({ frames := 0, cells := 0, slots := 0, locals := 0 } : Room).cells ({ frames := 0, cells := 0, slots := 0, locals := 0 } : Room).slots) := by
  refine MetFree.of_bodySF (plainFor_of_name (by first | (simp [plainName, overriddenIn]; done) | decide +kernel)) hisR ?_
  intro p e s m args below meth c s₁ Bd hml0 hP hK
  obtain ⟨rfl, hZ, hh⟩ := hP
  have hx := Bd.exec
  have hby := Bd.bytes
  have hlk := Bd.notSynchronized
  have hml : c.maxLocals = 1 := hml0
  have hown : s.vm.findClass "java/lang/String" = some m.cls := findClass_of_methodNamed Bd.named
  have hnm := (name_of_methodNamed Bd.named Bd.method).1
  have X0 : Stand p l e ({ frames := 0, cells := 0, slots := 0, locals := 0 } : Room) s m #[(.ref s_)] below meth c s₁ [] 0 0 := Stand.of_body Bd
  have e0 : s₁.heap = h0 := by rw [← hh, Bd.state]; rfl
  have N0 := Fr.nil n0
  show own_Ends p e below s₁ (entryFrame m #[(.ref s_)] 1) (fun ou Uw => ∃ vu Lu, ou = .returned vu ∧ Q_own_ril  h0 n0 vu Uw.heap Lu ∧ FrameEnd s ou Uw Lu ({ frames := 0, cells := 0, slots := 0, locals := 0 } : Room).cells ({ frames := 0, cells := 0, slots := 0, locals := 0 } : Room).slots)
  refine own_start (g' := (mkF m 0 #[rv s_] [])) (by first | (simp [entryFrame, mkF, argsToLocals, Value.category, iv, rv]; done) | rfl) ?_
  obtain ⟨T281, X281, e281, st281⟩ := getS2 X0 hx hZ hown (host := "") (Or.inl (hw _ (List.mem_of_getElem? (i := 22) rfl))) Via.refl e0 S_cp (g := (mkF m 0 #[rv s_] [])) rfl (hb hby own_d_jdk_42_method_154_code_0)
  refine own_go (T' := T281) (g' := (mkF m 3 #[rv s_] [(.int cp)])) (st281) ?_
  refine own_go (T' := T281) (g' := (mkF m 6 #[rv s_] [])) (fun t k => XS.ifNo X281.here hx rfl (hb hby own_d_jdk_42_method_154_code_3) rfl ((if0 _ _).trans (feq (hcp : ¬ (cp = (0 : Int32)))).1) k) ?_
  refine own_go (T' := T281) (g' := (mkF m 7 #[rv s_] [(.ref s_)])) (fun t k => XS.aloadN X281.here hx rfl (hb hby own_d_jdk_42_method_154_code_6) rfl rfl k) ?_
  obtain ⟨T282, X282, e282, st282⟩ := getF X281 hx hZ hown (host := "") (Or.inl (hw _ (List.mem_of_getElem? (i := 34) rfl))) Via.refl e281 F_c (g := (mkF m 7 #[rv s_] [(.ref s_)])) rfl rfl (hb hby own_d_jdk_42_method_154_code_7)
  refine own_go (T' := T282) (g' := (mkF m 10 #[rv s_] [(.int (0 : Int32))])) (st282) ?_
  refine own_go (T' := T282) (g' := (mkF m 13 #[rv s_] [])) (fun t k => XS.ifNo X282.here hx rfl (hb hby own_d_jdk_42_method_154_code_10) rfl ((if0 _ _).trans (teq (by decide : ((0 : Int32) = (0 : Int32)))).2) k) ?_
  refine own_go (T' := T282) (g' := (mkF m 14 #[rv s_] [(.int (1 : Int32))])) (fun t k => XS.iconst X282.here hx rfl (hb hby own_d_jdk_42_method_154_code_13) k) ?_
  refine own_go (T' := T282) (g' := (mkF m 18 #[rv s_] [(.int (1 : Int32))])) (fun t k => XS.goto X282.here hx rfl (pc0 := 14) (pc' := 18) rfl (hb hby own_d_jdk_42_method_154_code_14) (by decide) (by decide) k) ?_
  exact own_ret X282 hlk hx Bd.returns rfl (Or.inl ⟨rfl, Or.inr (Or.inl rfl), _, rfl⟩) (hb hby own_d_jdk_42_method_154_code_18) ⟨rfl, rfl, e282⟩ (by decide) (by decide)

theorem own_d_jdk_42_method_152_code_0 : decode jdk_42_method_152_code 0 = .ok (.getstatic 38, 3) := by decide +kernel
theorem own_d_jdk_42_method_152_code_3 : decode jdk_42_method_152_code 3 = .ok (.ifCond .eq 10, 3) := by decide +kernel
theorem own_d_jdk_42_method_152_code_6 : decode jdk_42_method_152_code 6 = .ok (.aload_n 0, 1) := by decide +kernel
theorem own_d_jdk_42_method_152_code_7 : decode jdk_42_method_152_code 7 = .ok (.getfield 15, 3) := by decide +kernel
theorem own_d_jdk_42_method_152_code_10 : decode jdk_42_method_152_code 10 = .ok (.goto 4, 3) := by decide +kernel
theorem own_d_jdk_42_method_152_code_14 : decode jdk_42_method_152_code 14 = .ok (.ireturn, 1) := by decide +kernel
def Q_own_rcd  (h0 : Heap) (n0 : Nat) (v : Option Value) (h : Heap) (L : List Loc) : Prop := v = some (.int 0) ∧ L = [] ∧ h = h0
set_option maxRecDepth 65536 in
set_option maxHeartbeats 40000000 in
theorem own_rcd (l : Launch) (Z : State) (a0 : Array Value) (hw : ∀ d ∈ tables_1, d.before a0 Z = true) (ws : List Jvm.Cond) (s_ : Addr) (cp : Int32) (h0 : Heap) (n0 : Nat) (Z0 : n0 ≤ h0.size) (F_c : Fld Z h0 s_ "java/lang/String" "coder" "B" (.int 0)) (S_cp : Sta Z h0 "java/lang/String" "COMPACT_STRINGS" "Z" (.int cp)) (hcp : ¬ cp = 0) :
    MetFree l (⟨"java/lang/String", "coder", "()B"⟩ : MethodName) (head1 (Jvm.Cond.code (⟨"java/lang/String", "coder", "()B"⟩ : MethodName) jdk_42_method_152_code 1 (some .byte) :: ws) ({ frames := 0, cells := 0, slots := 0, locals := 0 } : Room)) (fun au Uu => au = #[(.ref s_)] ∧ Z.Warmed39 Uu.vm ∧ Uu.heap = h0) (fun _ _ _ _ _ => True) (fun _ Uu ou Uw => ∃ vu Lu, ou = .returned vu ∧ Q_own_rcd  h0 n0 vu Uw.heap Lu ∧ FrameEnd Uu ou Uw Lu ({ frames := 0, cells := 0, slots := 0, locals := 0 } : Room).cells ({ frames := 0, cells := 0, slots := 0, locals := 0 } : Room).slots) := by
  refine MetFree.of_bodySF (plainFor_of_name (by first | (simp [plainName, overriddenIn]; done) | decide +kernel)) hisR ?_
  intro p e s m args below meth c s₁ Bd hml0 hP hK
  obtain ⟨rfl, hZ, hh⟩ := hP
  have hx := Bd.exec
  have hby := Bd.bytes
  have hlk := Bd.notSynchronized
  have hml : c.maxLocals = 1 := hml0
  have hown : s.vm.findClass "java/lang/String" = some m.cls := findClass_of_methodNamed Bd.named
  have hnm := (name_of_methodNamed Bd.named Bd.method).1
  have X0 : Stand p l e ({ frames := 0, cells := 0, slots := 0, locals := 0 } : Room) s m #[(.ref s_)] below meth c s₁ [] 0 0 := Stand.of_body Bd
  have e0 : s₁.heap = h0 := by rw [← hh, Bd.state]; rfl
  have N0 := Fr.nil n0
  show own_Ends p e below s₁ (entryFrame m #[(.ref s_)] 1) (fun ou Uw => ∃ vu Lu, ou = .returned vu ∧ Q_own_rcd  h0 n0 vu Uw.heap Lu ∧ FrameEnd s ou Uw Lu ({ frames := 0, cells := 0, slots := 0, locals := 0 } : Room).cells ({ frames := 0, cells := 0, slots := 0, locals := 0 } : Room).slots)
  refine own_start (g' := (mkF m 0 #[rv s_] [])) (by first | (simp [entryFrame, mkF, argsToLocals, Value.category, iv, rv]; done) | rfl) ?_
  obtain ⟨T283, X283, e283, st283⟩ := getS2 X0 hx hZ hown (host := "") (Or.inl (hw _ (List.mem_of_getElem? (i := 22) rfl))) Via.refl e0 S_cp (g := (mkF m 0 #[rv s_] [])) rfl (hb hby own_d_jdk_42_method_152_code_0)
  refine own_go (T' := T283) (g' := (mkF m 3 #[rv s_] [(.int cp)])) (st283) ?_
  refine own_go (T' := T283) (g' := (mkF m 6 #[rv s_] [])) (fun t k => XS.ifNo X283.here hx rfl (hb hby own_d_jdk_42_method_152_code_3) rfl ((if0 _ _).trans (feq (hcp : ¬ (cp = (0 : Int32)))).1) k) ?_
  refine own_go (T' := T283) (g' := (mkF m 7 #[rv s_] [(.ref s_)])) (fun t k => XS.aloadN X283.here hx rfl (hb hby own_d_jdk_42_method_152_code_6) rfl rfl k) ?_
  obtain ⟨T284, X284, e284, st284⟩ := getF X283 hx hZ hown (host := "") (Or.inl (hw _ (List.mem_of_getElem? (i := 34) rfl))) Via.refl e283 F_c (g := (mkF m 7 #[rv s_] [(.ref s_)])) rfl rfl (hb hby own_d_jdk_42_method_152_code_7)
  refine own_go (T' := T284) (g' := (mkF m 10 #[rv s_] [(.int (0 : Int32))])) (st284) ?_
  refine own_go (T' := T284) (g' := (mkF m 14 #[rv s_] [(.int (0 : Int32))])) (fun t k => XS.goto X284.here hx rfl (pc0 := 10) (pc' := 14) rfl (hb hby own_d_jdk_42_method_152_code_10) (by decide) (by decide) k) ?_
  exact own_ret X284 hlk hx Bd.returns rfl (Or.inl ⟨rfl, Or.inr (Or.inr (Or.inl rfl)), _, rfl⟩) (hb hby own_d_jdk_42_method_152_code_14) ⟨rfl, rfl, e284⟩ (by decide) (by decide)

def Q_own_rpi (i : Int32) (h0 : Heap) (n0 : Nat) (v : Option Value) (h : Heap) (L : List Loc) : Prop := v = some (.int i) ∧ L = [] ∧ h = h0
theorem own_d_jdk_41_method_11_code_0 : decode jdk_41_method_11_code 0 = .ok (.iload_n 0, 1) := by decide +kernel
theorem own_d_jdk_41_method_11_code_1 : decode jdk_41_method_11_code 1 = .ok (.ifCond .lt 8, 3) := by decide +kernel
theorem own_d_jdk_41_method_11_code_4 : decode jdk_41_method_11_code 4 = .ok (.iload_n 0, 1) := by decide +kernel
theorem own_d_jdk_41_method_11_code_5 : decode jdk_41_method_11_code 5 = .ok (.iload_n 1, 1) := by decide +kernel
theorem own_d_jdk_41_method_11_code_6 : decode jdk_41_method_11_code 6 = .ok (.if_icmp .lt 10, 3) := by decide +kernel
theorem own_d_jdk_41_method_11_code_16 : decode jdk_41_method_11_code 16 = .ok (.iload_n 0, 1) := by decide +kernel
theorem own_d_jdk_41_method_11_code_17 : decode jdk_41_method_11_code 17 = .ok (.ireturn, 1) := by decide +kernel
def Q_own_rpin (i : Int32) (h0 : Heap) (n0 : Nat) (v : Option Value) (h : Heap) (L : List Loc) : Prop := Q_own_rpi i h0 n0 v h L
set_option maxRecDepth 65536 in
set_option maxHeartbeats 40000000 in
theorem own_rpin (l : Launch) (Z : State) (a0 : Array Value) (hw : ∀ d ∈ tables_1, d.before a0 Z = true) (ws : List Jvm.Cond) (i z : Int32) (h0 : Heap) (n0 : Nat) (Z0 : n0 ≤ h0.size) (hi : ¬ i < 0) (hz : i < z) :
    MetFree l (⟨"jdk/internal/util/Preconditions", "checkIndex", "(IILjava/util/function/BiFunction;)I"⟩ : MethodName) (head1 (Jvm.Cond.code (⟨"jdk/internal/util/Preconditions", "checkIndex", "(IILjava/util/function/BiFunction;)I"⟩ : MethodName) jdk_41_method_11_code 3 (some .int) :: ws) ({ frames := 0, cells := 0, slots := 0, locals := 0 } : Room)) (fun au Uu => au = #[(.int i), (.int z), .null] ∧ Z.Warmed39 Uu.vm ∧ Uu.heap = h0) (fun _ _ _ _ _ => True) (fun _ Uu ou Uw => ∃ vu Lu, ou = .returned vu ∧ Q_own_rpin i h0 n0 vu Uw.heap Lu ∧ FrameEnd Uu ou Uw Lu ({ frames := 0, cells := 0, slots := 0, locals := 0 } : Room).cells ({ frames := 0, cells := 0, slots := 0, locals := 0 } : Room).slots) := by
  refine MetFree.of_bodySF (plainFor_of_name (by first | (simp [plainName, overriddenIn]; done) | decide +kernel)) hisR ?_
  intro p e s m args below meth c s₁ Bd hml0 hP hK
  obtain ⟨rfl, hZ, hh⟩ := hP
  have hx := Bd.exec
  have hby := Bd.bytes
  have hlk := Bd.notSynchronized
  have hml : c.maxLocals = 3 := hml0
  have hown : s.vm.findClass "jdk/internal/util/Preconditions" = some m.cls := findClass_of_methodNamed Bd.named
  have hnm := (name_of_methodNamed Bd.named Bd.method).1
  have X0 : Stand p l e ({ frames := 0, cells := 0, slots := 0, locals := 0 } : Room) s m #[(.int i), (.int z), .null] below meth c s₁ [] 0 0 := Stand.of_body Bd
  have e0 : s₁.heap = h0 := by rw [← hh, Bd.state]; rfl
  have N0 := Fr.nil n0
  show own_Ends p e below s₁ (entryFrame m #[(.int i), (.int z), .null] 3) (fun ou Uw => ∃ vu Lu, ou = .returned vu ∧ Q_own_rpin i h0 n0 vu Uw.heap Lu ∧ FrameEnd s ou Uw Lu ({ frames := 0, cells := 0, slots := 0, locals := 0 } : Room).cells ({ frames := 0, cells := 0, slots := 0, locals := 0 } : Room).slots)
  refine own_start (g' := (mkF m 0 #[iv i, iv z, .val .null] [])) (by first | (simp [entryFrame, mkF, argsToLocals, Value.category, iv, rv]; done) | rfl) ?_
  refine own_go (T' := s₁) (g' := (mkF m 1 #[iv i, iv z, .val .null] [(.int i)])) (fun t k => XS.iloadN X0.here hx rfl (hb hby own_d_jdk_41_method_11_code_0) rfl k) ?_
  refine own_go (T' := s₁) (g' := (mkF m 4 #[iv i, iv z, .val .null] [])) (fun t k => XS.ifNo X0.here hx rfl (hb hby own_d_jdk_41_method_11_code_1) rfl ((if0 _ _).trans (flt (hi : ¬ (i < (0 : Int32)))).1) k) ?_
  refine own_go (T' := s₁) (g' := (mkF m 5 #[iv i, iv z, .val .null] [(.int i)])) (fun t k => XS.iloadN X0.here hx rfl (hb hby own_d_jdk_41_method_11_code_4) rfl k) ?_
  refine own_go (T' := s₁) (g' := (mkF m 6 #[iv i, iv z, .val .null] [(.int z), (.int i)])) (fun t k => XS.iloadN X0.here hx rfl (hb hby own_d_jdk_41_method_11_code_5) rfl k) ?_
  refine own_go (T' := s₁) (g' := (mkF m 16 #[iv i, iv z, .val .null] [])) (fun t k => XS.icmpYes X0.here hx rfl (pc0 := 6) (pc' := 16) rfl (hb hby own_d_jdk_41_method_11_code_6) rfl (tlt (hz : (i < z))).1 (by decide) (by decide) k) ?_
  refine own_go (T' := s₁) (g' := (mkF m 17 #[iv i, iv z, .val .null] [(.int i)])) (fun t k => XS.iloadN X0.here hx rfl (hb hby own_d_jdk_41_method_11_code_16) rfl k) ?_
  exact own_ret X0 hlk hx Bd.returns rfl (Or.inl ⟨rfl, Or.inl rfl, _, rfl⟩) (hb hby own_d_jdk_41_method_11_code_17) ⟨rfl, rfl, e0⟩ (by decide) (by decide)

def Q_own_rpir (i : Int32) (h0 : Heap) (n0 : Nat) (v : Option Value) (h : Heap) (L : List Loc) : Prop := Q_own_rpi i h0 n0 v h L
set_option maxRecDepth 65536 in
set_option maxHeartbeats 40000000 in
theorem own_rpir (l : Launch) (Z : State) (a0 : Array Value) (hw : ∀ d ∈ tables_1, d.before a0 Z = true) (ws : List Jvm.Cond) (i z : Int32) (f : Addr) (h0 : Heap) (n0 : Nat) (Z0 : n0 ≤ h0.size) (hi : ¬ i < 0) (hz : i < z) :
    MetFree l (⟨"jdk/internal/util/Preconditions", "checkIndex", "(IILjava/util/function/BiFunction;)I"⟩ : MethodName) (head1 (Jvm.Cond.code (⟨"jdk/internal/util/Preconditions", "checkIndex", "(IILjava/util/function/BiFunction;)I"⟩ : MethodName) jdk_41_method_11_code 3 (some .int) :: ws) ({ frames := 0, cells := 0, slots := 0, locals := 0 } : Room)) (fun au Uu => au = #[(.int i), (.int z), (.ref f)] ∧ Z.Warmed39 Uu.vm ∧ Uu.heap = h0) (fun _ _ _ _ _ => True) (fun _ Uu ou Uw => ∃ vu Lu, ou = .returned vu ∧ Q_own_rpir i h0 n0 vu Uw.heap Lu ∧ FrameEnd Uu ou Uw Lu ({ frames := 0, cells := 0, slots := 0, locals := 0 } : Room).cells ({ frames := 0, cells := 0, slots := 0, locals := 0 } : Room).slots) := by
  refine MetFree.of_bodySF (plainFor_of_name (by first | (simp [plainName, overriddenIn]; done) | decide +kernel)) hisR ?_
  intro p e s m args below meth c s₁ Bd hml0 hP hK
  obtain ⟨rfl, hZ, hh⟩ := hP
  have hx := Bd.exec
  have hby := Bd.bytes
  have hlk := Bd.notSynchronized
  have hml : c.maxLocals = 3 := hml0
  have hown : s.vm.findClass "jdk/internal/util/Preconditions" = some m.cls := findClass_of_methodNamed Bd.named
  have hnm := (name_of_methodNamed Bd.named Bd.method).1
  have X0 : Stand p l e ({ frames := 0, cells := 0, slots := 0, locals := 0 } : Room) s m #[(.int i), (.int z), (.ref f)] below meth c s₁ [] 0 0 := Stand.of_body Bd
  have e0 : s₁.heap = h0 := by rw [← hh, Bd.state]; rfl
  have N0 := Fr.nil n0
  show own_Ends p e below s₁ (entryFrame m #[(.int i), (.int z), (.ref f)] 3) (fun ou Uw => ∃ vu Lu, ou = .returned vu ∧ Q_own_rpir i h0 n0 vu Uw.heap Lu ∧ FrameEnd s ou Uw Lu ({ frames := 0, cells := 0, slots := 0, locals := 0 } : Room).cells ({ frames := 0, cells := 0, slots := 0, locals := 0 } : Room).slots)
  refine own_start (g' := (mkF m 0 #[iv i, iv z, rv f] [])) (by first | (simp [entryFrame, mkF, argsToLocals, Value.category, iv, rv]; done) | rfl) ?_
  refine own_go (T' := s₁) (g' := (mkF m 1 #[iv i, iv z, rv f] [(.int i)])) (fun t k => XS.iloadN X0.here hx rfl (hb hby own_d_jdk_41_method_11_code_0) rfl k) ?_
  refine own_go (T' := s₁) (g' := (mkF m 4 #[iv i, iv z, rv f] [])) (fun t k => XS.ifNo X0.here hx rfl (hb hby own_d_jdk_41_method_11_code_1) rfl ((if0 _ _).trans (flt (hi : ¬ (i < (0 : Int32)))).1) k) ?_
  refine own_go (T' := s₁) (g' := (mkF m 5 #[iv i, iv z, rv f] [(.int i)])) (fun t k => XS.iloadN X0.here hx rfl (hb hby own_d_jdk_41_method_11_code_4) rfl k) ?_
  refine own_go (T' := s₁) (g' := (mkF m 6 #[iv i, iv z, rv f] [(.int z), (.int i)])) (fun t k => XS.iloadN X0.here hx rfl (hb hby own_d_jdk_41_method_11_code_5) rfl k) ?_
  refine own_go (T' := s₁) (g' := (mkF m 16 #[iv i, iv z, rv f] [])) (fun t k => XS.icmpYes X0.here hx rfl (pc0 := 6) (pc' := 16) rfl (hb hby own_d_jdk_41_method_11_code_6) rfl (tlt (hz : (i < z))).1 (by decide) (by decide) k) ?_
  refine own_go (T' := s₁) (g' := (mkF m 17 #[iv i, iv z, rv f] [(.int i)])) (fun t k => XS.iloadN X0.here hx rfl (hb hby own_d_jdk_41_method_11_code_16) rfl k) ?_
  exact own_ret X0 hlk hx Bd.returns rfl (Or.inl ⟨rfl, Or.inl rfl, _, rfl⟩) (hb hby own_d_jdk_41_method_11_code_17) ⟨rfl, rfl, e0⟩ (by decide) (by decide)

theorem own_rpi (l : Launch) (Z : State) (a0 : Array Value) (hw : ∀ d ∈ tables_1, d.before a0 Z = true) (ws : List Jvm.Cond) (i z : Int32) (fm : Value) (h0 : Heap) (n0 : Nat) (Z0 : n0 ≤ h0.size) (hfm : fm.isRef = true) (hi : ¬ i < 0) (hz : i < z) :
    MetFree l (⟨"jdk/internal/util/Preconditions", "checkIndex", "(IILjava/util/function/BiFunction;)I"⟩ : MethodName) (head1 (Jvm.Cond.code (⟨"jdk/internal/util/Preconditions", "checkIndex", "(IILjava/util/function/BiFunction;)I"⟩ : MethodName) jdk_41_method_11_code 3 (some .int) :: ws) ({ frames := 0, cells := 0, slots := 0, locals := 0 } : Room)) (fun a U => a = #[(.int i), (.int z), fm] ∧ Z.Warmed39 U.vm ∧ U.heap = h0) (fun _ _ _ _ _ => True) (fun _ U o U' => ∃ v L, o = .returned v ∧ Q_own_rpi i h0 n0 v U'.heap L ∧ FrameEnd U o U' L ({ frames := 0, cells := 0, slots := 0, locals := 0 } : Room).cells ({ frames := 0, cells := 0, slots := 0, locals := 0 } : Room).slots) := by
  cases fm with
  | null => exact own_rpin l Z a0 hw ws i z h0 n0 Z0 hi hz
  | ref f => exact own_rpir l Z a0 hw ws i z f h0 n0 Z0 hi hz
  | _ => cases hfm

theorem own_pd5 : parseMethodDescriptor "(IILjava/util/function/BiFunction;)I" = some ⟨[.int, .int, (.object "java/util/function/BiFunction")], some .int⟩ := by decide +kernel
theorem own_d_jdk_42_method_155_code_0 : decode jdk_42_method_155_code 0 = .ok (.iload_n 0, 1) := by decide +kernel
theorem own_d_jdk_42_method_155_code_1 : decode jdk_42_method_155_code 1 = .ok (.iload_n 1, 1) := by decide +kernel
theorem own_d_jdk_42_method_155_code_2 : decode jdk_42_method_155_code 2 = .ok (.getstatic 1053, 3) := by decide +kernel
theorem own_d_jdk_42_method_155_code_5 : decode jdk_42_method_155_code 5 = .ok (.invokestatic 1059, 3) := by decide +kernel
theorem own_d_jdk_42_method_155_code_8 : decode jdk_42_method_155_code 8 = .ok (.pop, 1) := by decide +kernel
theorem own_d_jdk_42_method_155_code_9 : decode jdk_42_method_155_code 9 = .ok (.return_, 1) := by decide +kernel
def Q_own_rxi  (h0 : Heap) (n0 : Nat) (v : Option Value) (h : Heap) (L : List Loc) : Prop := v = none ∧ L = [] ∧ h = h0
set_option maxRecDepth 65536 in
set_option maxHeartbeats 40000000 in
theorem own_rxi (l : Launch) (Z : State) (a0 : Array Value) (hw : ∀ d ∈ tables_1, d.before a0 Z = true) (ws : List Jvm.Cond) (i z : Int32) (fm : Value) (h0 : Heap) (n0 : Nat) (Z0 : n0 ≤ h0.size) (hi : ¬ i < 0) (hz : i < z) (S_fm : Sta Z h0 "jdk/internal/util/Preconditions" "SIOOBE_FORMATTER" "Ljava/util/function/BiFunction;" fm) (hfm : fm.isRef = true) :
    MetFree l (⟨"java/lang/String", "checkIndex", "(II)V"⟩ : MethodName) (head1 (Jvm.Cond.code (⟨"java/lang/String", "checkIndex", "(II)V"⟩ : MethodName) jdk_42_method_155_code 2 none :: ws) ({ frames := 1, cells := 0, slots := 0, locals := 14 } : Room)) (fun au Uu => au = #[(.int i), (.int z)] ∧ Z.Warmed39 Uu.vm ∧ Uu.heap = h0) (fun _ _ _ _ _ => True) (fun _ Uu ou Uw => ∃ vu Lu, ou = .returned vu ∧ Q_own_rxi  h0 n0 vu Uw.heap Lu ∧ FrameEnd Uu ou Uw Lu ({ frames := 1, cells := 0, slots := 0, locals := 14 } : Room).cells ({ frames := 1, cells := 0, slots := 0, locals := 14 } : Room).slots) := by
  refine MetFree.of_bodySF (plainFor_of_name (by first | (simp [plainName, overriddenIn]; done) | decide +kernel)) hisR ?_
  intro p e s m args below meth c s₁ Bd hml0 hP hK
  obtain ⟨rfl, hZ, hh⟩ := hP
  have hx := Bd.exec
  have hby := Bd.bytes
  have hlk := Bd.notSynchronized
  have hml : c.maxLocals = 2 := hml0
  have hown : s.vm.findClass "java/lang/String" = some m.cls := findClass_of_methodNamed Bd.named
  have hnm := (name_of_methodNamed Bd.named Bd.method).1
  have X0 : Stand p l e ({ frames := 1, cells := 0, slots := 0, locals := 14 } : Room) s m #[(.int i), (.int z)] below meth c s₁ [] 0 0 := Stand.of_body Bd
  have e0 : s₁.heap = h0 := by rw [← hh, Bd.state]; rfl
  have N0 := Fr.nil n0
  show own_Ends p e below s₁ (entryFrame m #[(.int i), (.int z)] 2) (fun ou Uw => ∃ vu Lu, ou = .returned vu ∧ Q_own_rxi  h0 n0 vu Uw.heap Lu ∧ FrameEnd s ou Uw Lu ({ frames := 1, cells := 0, slots := 0, locals := 14 } : Room).cells ({ frames := 1, cells := 0, slots := 0, locals := 14 } : Room).slots)
  refine own_start (g' := (mkF m 0 #[iv i, iv z] [])) (by first | (simp [entryFrame, mkF, argsToLocals, Value.category, iv, rv]; done) | rfl) ?_
  refine own_go (T' := s₁) (g' := (mkF m 1 #[iv i, iv z] [(.int i)])) (fun t k => XS.iloadN X0.here hx rfl (hb hby own_d_jdk_42_method_155_code_0) rfl k) ?_
  refine own_go (T' := s₁) (g' := (mkF m 2 #[iv i, iv z] [(.int z), (.int i)])) (fun t k => XS.iloadN X0.here hx rfl (hb hby own_d_jdk_42_method_155_code_1) rfl k) ?_
  obtain ⟨T285, X285, e285, st285⟩ := getS2 X0 hx hZ hown (host := "") (Or.inl (hw _ (List.mem_of_getElem? (i := 74) rfl))) Via.refl e0 S_fm (g := (mkF m 2 #[iv i, iv z] [(.int z), (.int i)])) rfl (hb hby own_d_jdk_42_method_155_code_2)
  refine own_go (T' := T285) (g' := (mkF m 5 #[iv i, iv z] [fm, (.int z), (.int i)])) (st285) ?_
  obtain ⟨_, _, ⟨T286, L286, k286, n286⟩, -, X286, ⟨Lc286, hQ286, l286, y286, z286⟩, st286⟩ := Jvm.LawKit.callS X285 hx (y := (⟨"jdk/internal/util/Preconditions", "checkIndex", "(IILjava/util/function/BiFunction;)I"⟩ : MethodName)) hown (mvT hZ (hw _ (List.mem_of_getElem? (i := 76) rfl))) (mvT hZ (hw _ (List.mem_of_getElem? (i := 77) rfl))) (mvT hZ (hw _ (List.mem_of_getElem? (i := 75) rfl))) (mvT hZ (hw _ (List.mem_of_getElem? (i := 78) rfl))) (by decide) (backOf (W := 0) (own_rpi l Z a0 hw [] i z fm h0 n0 Z0 hfm hi hz) hZ (hw _ (List.mem_of_getElem? (i := 78) rfl)) (hw _ (List.mem_of_getElem? (i := 75) rfl)) (by decide) (by decide)) (g := (mkF m 5 #[iv i, iv z] [fm, (.int z), (.int i)])) rfl (by rw [hml]; rfl) (argsL := [(.int i), (.int z), fm]) (rest := []) (lenOf own_pd5 rfl) rfl (by show 2 * 0 + _ ≤ _; exact Nat.le_of_eq rfl) (hb hby own_d_jdk_42_method_155_code_5) (fun _ _ => ⟨rfl, e285, (by decide : 0 + 0 ≤ _), (by decide : 0 + 0 ≤ _)⟩)
  dsimp only [Pt.U, Pt.locs, Pt.cells, Pt.slots] at X286 l286 y286 z286 st286 hQ286
  subst l286 y286 z286
  obtain ⟨rfl, rfl, e286⟩ := hQ286
  have E286q : T286.heap = h0 := e286
  have N286 := Fr.app N0 (Fr.nil n0)
  refine own_go (T' := T286) (g' := (mkF m 8 #[iv i, iv z] [(.int i)])) (st286) ?_
  refine own_go (T' := T286) (g' := (mkF m 9 #[iv i, iv z] [])) (fun t k => XS.pop X286.here hx rfl (hb hby own_d_jdk_42_method_155_code_8) rfl rfl k) ?_
  exact own_ret0 X286 hlk hx Bd.returns (hb hby own_d_jdk_42_method_155_code_9) ⟨rfl, rfl, E286q⟩ (by decide) (by decide)

theorem own_pd6 : parseMethodDescriptor "(II)V" = some ⟨[.int, .int], none⟩ := by decide +kernel
theorem own_d_jdk_43_method_2_code_0 : decode jdk_43_method_2_code 0 = .ok (.iload_n 1, 1) := by decide +kernel
theorem own_d_jdk_43_method_2_code_1 : decode jdk_43_method_2_code 1 = .ok (.aload_n 0, 1) := by decide +kernel
theorem own_d_jdk_43_method_2_code_2 : decode jdk_43_method_2_code 2 = .ok (.arraylength, 1) := by decide +kernel
theorem own_d_jdk_43_method_2_code_3 : decode jdk_43_method_2_code 3 = .ok (.invokestatic 9, 3) := by decide +kernel
theorem own_d_jdk_43_method_2_code_6 : decode jdk_43_method_2_code 6 = .ok (.aload_n 0, 1) := by decide +kernel
theorem own_d_jdk_43_method_2_code_7 : decode jdk_43_method_2_code 7 = .ok (.iload_n 1, 1) := by decide +kernel
theorem own_d_jdk_43_method_2_code_8 : decode jdk_43_method_2_code 8 = .ok (.baload, 1) := by decide +kernel
theorem own_d_jdk_43_method_2_code_9 : decode jdk_43_method_2_code 9 = .ok (.sipush 255, 3) := by decide +kernel
theorem own_d_jdk_43_method_2_code_12 : decode jdk_43_method_2_code 12 = .ok (.iand, 1) := by decide +kernel
theorem own_d_jdk_43_method_2_code_13 : decode jdk_43_method_2_code 13 = .ok (.i2c, 1) := by decide +kernel
theorem own_d_jdk_43_method_2_code_14 : decode jdk_43_method_2_code 14 = .ok (.ireturn, 1) := by decide +kernel
def Q_own_rla (cv : Int32) (h0 : Heap) (n0 : Nat) (v : Option Value) (h : Heap) (L : List Loc) : Prop := v = some (.int cv) ∧ L = [] ∧ h = h0
set_option maxRecDepth 65536 in
set_option maxHeartbeats 40000000 in
theorem own_rla (l : Launch) (Z : State) (a0 : Array Value) (hw : ∀ d ∈ tables_1, d.before a0 Z = true) (ws : List Jvm.Cond) (b : Addr) (kb : ClassId) (i z cv : Int32) (vs : List Value) (fm : Value) (h0 : Heap) (n0 : Nat) (Z0 : n0 ≤ h0.size) (V_b : Arv Z h0 b kb .byte z vs (.int (0 : Int32))) (hi : ¬ i < 0) (hz : i < z) (ha : vs.getD i.toNatClampNeg (.int (0 : Int32)) = .int cv) (qc : own_C cv) (S_fm : Sta Z h0 "jdk/internal/util/Preconditions" "SIOOBE_FORMATTER" "Ljava/util/function/BiFunction;" fm) (hfm : fm.isRef = true) :
    MetFree l (⟨"java/lang/StringLatin1", "charAt", "([BI)C"⟩ : MethodName) (head1 (Jvm.Cond.code (⟨"java/lang/StringLatin1", "charAt", "([BI)C"⟩ : MethodName) jdk_43_method_2_code 2 (some .char) :: ws) ({ frames := 2, cells := 0, slots := 0, locals := 27 } : Room)) (fun au Uu => au = #[(.ref b), (.int i)] ∧ Z.Warmed39 Uu.vm ∧ Uu.heap = h0) (fun _ _ _ _ _ => True) (fun _ Uu ou Uw => ∃ vu Lu, ou = .returned vu ∧ Q_own_rla cv h0 n0 vu Uw.heap Lu ∧ FrameEnd Uu ou Uw Lu ({ frames := 2, cells := 0, slots := 0, locals := 27 } : Room).cells ({ frames := 2, cells := 0, slots := 0, locals := 27 } : Room).slots) := by
  refine MetFree.of_bodySF (plainFor_of_name (by first | (simp [plainName, overriddenIn]; done) | decide +kernel)) hisR ?_
  intro p e s m args below meth c s₁ Bd hml0 hP hK
  obtain ⟨rfl, hZ, hh⟩ := hP
  have hx := Bd.exec
  have hby := Bd.bytes
  have hlk := Bd.notSynchronized
  have hml : c.maxLocals = 2 := hml0
  have hown : s.vm.findClass "java/lang/StringLatin1" = some m.cls := findClass_of_methodNamed Bd.named
  have hnm := (name_of_methodNamed Bd.named Bd.method).1
  have X0 : Stand p l e ({ frames := 2, cells := 0, slots := 0, locals := 27 } : Room) s m #[(.ref b), (.int i)] below meth c s₁ [] 0 0 := Stand.of_body Bd
  have e0 : s₁.heap = h0 := by rw [← hh, Bd.state]; rfl
  have N0 := Fr.nil n0
  show own_Ends p e below s₁ (entryFrame m #[(.ref b), (.int i)] 2) (fun ou Uw => ∃ vu Lu, ou = .returned vu ∧ Q_own_rla cv h0 n0 vu Uw.heap Lu ∧ FrameEnd s ou Uw Lu ({ frames := 2, cells := 0, slots := 0, locals := 27 } : Room).cells ({ frames := 2, cells := 0, slots := 0, locals := 27 } : Room).slots)
  refine own_start (g' := (mkF m 0 #[rv b, iv i] [])) (by first | (simp [entryFrame, mkF, argsToLocals, Value.category, iv, rv]; done) | rfl) ?_
  refine own_go (T' := s₁) (g' := (mkF m 1 #[rv b, iv i] [(.int i)])) (fun t k => XS.iloadN X0.here hx rfl (hb hby own_d_jdk_43_method_2_code_0) rfl k) ?_
  refine own_go (T' := s₁) (g' := (mkF m 2 #[rv b, iv i] [(.ref b), (.int i)])) (fun t k => XS.aloadN X0.here hx rfl (hb hby own_d_jdk_43_method_2_code_1) rfl rfl k) ?_
  obtain ⟨cl287, Ar287, -, Sz287, Nn287, -, -⟩ := id V_b
  refine own_go (T' := s₁) (g' := (mkF m 3 #[rv b, iv i] [(.int z), (.int i)])) (fun t k => X0.arraylength hx (by rw [e0]; exact Ar287.1) (State.isArrayOf_alike hZ.alike Ar287.2.1) (g := (mkF m 2 #[rv b, iv i] [(.ref b), (.int i)])) rfl rfl (hb hby own_d_jdk_43_method_2_code_2) _ (by rw [len_of Sz287 Nn287]; exact k)) ?_
  obtain ⟨_, _, ⟨T288, L288, k288, n288⟩, -, X288, ⟨Lc288, hQ288, l288, y288, z288⟩, st288⟩ := Jvm.LawKit.callS X0 hx (y := (⟨"java/lang/String", "checkIndex", "(II)V"⟩ : MethodName)) hown (mvT hZ (hw _ (List.mem_of_getElem? (i := 71) rfl))) (mvT hZ (hw _ (List.mem_of_getElem? (i := 72) rfl))) (mvT hZ (hw _ (List.mem_of_getElem? (i := 10) rfl))) (mvT hZ (hw _ (List.mem_of_getElem? (i := 73) rfl))) (by decide) (backOf (W := 0) (own_rxi l Z a0 hw [] i z fm h0 n0 Z0 hi hz S_fm hfm) hZ (hw _ (List.mem_of_getElem? (i := 73) rfl)) (hw _ (List.mem_of_getElem? (i := 10) rfl)) (by decide) (by decide)) (g := (mkF m 3 #[rv b, iv i] [(.int z), (.int i)])) rfl (by rw [hml]; rfl) (argsL := [(.int i), (.int z)]) (rest := []) (lenOf own_pd6 rfl) rfl (by show 2 * 0 + _ ≤ _; exact Nat.le_of_eq rfl) (hb hby own_d_jdk_43_method_2_code_3) (fun _ _ => ⟨rfl, e0, (by decide : 0 + 0 ≤ _), (by decide : 0 + 0 ≤ _)⟩)
  dsimp only [Pt.U, Pt.locs, Pt.cells, Pt.slots] at X288 l288 y288 z288 st288 hQ288
  subst l288 y288 z288
  obtain ⟨rfl, rfl, e288⟩ := hQ288
  have E288q : T288.heap = h0 := e288
  have N288 := Fr.app N0 (Fr.nil n0)
  refine own_go (T' := T288) (g' := (mkF m 6 #[rv b, iv i] [])) (st288) ?_
  refine own_go (T' := T288) (g' := (mkF m 7 #[rv b, iv i] [(.ref b)])) (fun t k => XS.aloadN X288.here hx rfl (hb hby own_d_jdk_43_method_2_code_6) rfl rfl k) ?_
  refine own_go (T' := T288) (g' := (mkF m 8 #[rv b, iv i] [(.int i), (.ref b)])) (fun t k => XS.iloadN X288.here hx rfl (hb hby own_d_jdk_43_method_2_code_7) rfl k) ?_
  obtain ⟨cl289, Ar289, -, Sz289, Nn289, Ha289, -⟩ := id V_b
  have hin289 : ¬ (i < 0 ∨ cl289.slots.size ≤ (i).toNatClampNeg) := inb_of Sz289 ⟨hi, hz⟩
  have hat289 : cl289.slots[(i).toNatClampNeg]? = some (.int cv) := Ha289.at hin289 ha
  refine own_go (T' := T288) (g' := (mkF m 9 #[rv b, iv i] [(.int cv)])) (fun t k => X288.baloadBytes hx (j := i) (v := (.int cv)) (by rw [E288q]; exact Ar289.1) (State.isArrayOf_alike hZ.alike Ar289.2.1) Ar289.2.2 hin289 hat289 (g := (mkF m 8 #[rv b, iv i] [(.int i), (.ref b)])) rfl rfl (hb hby own_d_jdk_43_method_2_code_8) _ k) ?_
  refine own_go (T' := T288) (g' := (mkF m 12 #[rv b, iv i] [(.int (255 : Int32)), (.int cv)])) (fun t k => XS.sipush X288.here hx rfl (hb hby own_d_jdk_43_method_2_code_9) k) ?_
  refine own_go (T' := T288) (g' := (mkF m 13 #[rv b, iv i] [(.int (cv &&& (255 : Int32)))])) (fun t k => XS.iand X288.here hx rfl (hb hby own_d_jdk_43_method_2_code_12) rfl k) ?_
  refine own_go (T' := T288) (g' := (mkF m 14 #[rv b, iv i] [(.int ((cv &&& (255 : Int32)).toUInt32.toUInt16.toUInt32.toInt32))])) (fun t k => XS.i2c X288.here hx rfl (hb hby own_d_jdk_43_method_2_code_13) rfl k) ?_
  exact own_ret X288 hlk hx Bd.returns (by rw [own_l1 qc]; exact own_narc qc) (Or.inl ⟨rfl, Or.inr (Or.inr (Or.inr (Or.inl rfl))), _, rfl⟩) (hb hby own_d_jdk_43_method_2_code_14) ⟨congrArg (fun z => some (Value.int z)) (own_l1 qc), rfl, E288q⟩ (by decide) (by decide)

theorem own_pd7 : parseMethodDescriptor "()Z" = some ⟨[], some .boolean⟩ := by decide +kernel
theorem own_pd8 : parseMethodDescriptor "([BI)C" = some ⟨[(.array .byte), .int], some .char⟩ := by decide +kernel
theorem own_d_jdk_42_method_56_code_0 : decode jdk_42_method_56_code 0 = .ok (.aload_n 0, 1) := by decide +kernel
theorem own_d_jdk_42_method_56_code_1 : decode jdk_42_method_56_code 1 = .ok (.invokevirtual 492, 3) := by decide +kernel
theorem own_d_jdk_42_method_56_code_4 : decode jdk_42_method_56_code 4 = .ok (.ifCond .eq 12, 3) := by decide +kernel
theorem own_d_jdk_42_method_56_code_7 : decode jdk_42_method_56_code 7 = .ok (.aload_n 0, 1) := by decide +kernel
theorem own_d_jdk_42_method_56_code_8 : decode jdk_42_method_56_code 8 = .ok (.getfield 9, 3) := by decide +kernel
theorem own_d_jdk_42_method_56_code_11 : decode jdk_42_method_56_code 11 = .ok (.iload_n 1, 1) := by decide +kernel
theorem own_d_jdk_42_method_56_code_12 : decode jdk_42_method_56_code 12 = .ok (.invokestatic 495, 3) := by decide +kernel
theorem own_d_jdk_42_method_56_code_15 : decode jdk_42_method_56_code 15 = .ok (.ireturn, 1) := by decide +kernel
def Q_own_rca (cv : Int32) (h0 : Heap) (n0 : Nat) (v : Option Value) (h : Heap) (L : List Loc) : Prop := v = some (.int cv) ∧ L = [] ∧ h = h0
set_option maxRecDepth 65536 in
set_option maxHeartbeats 40000000 in
theorem own_rca (l : Launch) (Z : State) (a0 : Array Value) (hw : ∀ d ∈ tables_1, d.before a0 Z = true) (ws : List Jvm.Cond) (s_ b : Addr) (kb : ClassId) (i z cv cp : Int32) (vs : List Value) (fm : Value) (h0 : Heap) (n0 : Nat) (Z0 : n0 ≤ h0.size) (E_s : Exa Z h0 s_ "java/lang/String") (F_c : Fld Z h0 s_ "java/lang/String" "coder" "B" (.int 0)) (F_v : Fld Z h0 s_ "java/lang/String" "value" "[B" (.ref b)) (V_b : Arv Z h0 b kb .byte z vs (.int (0 : Int32))) (hi : ¬ i < 0) (hz : i < z) (ha : vs.getD i.toNatClampNeg (.int (0 : Int32)) = .int cv) (qc : own_C cv) (S_cp : Sta Z h0 "java/lang/String" "COMPACT_STRINGS" "Z" (.int cp)) (hcp : ¬ cp = 0) (S_fm : Sta Z h0 "jdk/internal/util/Preconditions" "SIOOBE_FORMATTER" "Ljava/util/function/BiFunction;" fm) (hfm : fm.isRef = true) :
    MetFree l (⟨"java/lang/String", "charAt", "(I)C"⟩ : MethodName) (head1 (Jvm.Cond.code (⟨"java/lang/String", "charAt", "(I)C"⟩ : MethodName) jdk_42_method_56_code 2 (some .char) :: ws) ({ frames := 3, cells := 0, slots := 0, locals := 40 } : Room)) (fun au Uu => au = #[(.ref s_), (.int i)] ∧ Z.Warmed39 Uu.vm ∧ Uu.heap = h0) (fun _ _ _ _ _ => True) (fun _ Uu ou Uw => ∃ vu Lu, ou = .returned vu ∧ Q_own_rca cv h0 n0 vu Uw.heap Lu ∧ FrameEnd Uu ou Uw Lu ({ frames := 3, cells := 0, slots := 0, locals := 40 } : Room).cells ({ frames := 3, cells := 0, slots := 0, locals := 40 } : Room).slots) := by
  refine MetFree.of_bodySF (plainFor_of_name (by first | (simp [plainName, overriddenIn]; done) | decide +kernel)) hisR ?_
  intro p e s m args below meth c s₁ Bd hml0 hP hK
  obtain ⟨rfl, hZ, hh⟩ := hP
  have hx := Bd.exec
  have hby := Bd.bytes
  have hlk := Bd.notSynchronized
  have hml : c.maxLocals = 2 := hml0
  have hown : s.vm.findClass "java/lang/String" = some m.cls := findClass_of_methodNamed Bd.named
  have hnm := (name_of_methodNamed Bd.named Bd.method).1
  have X0 : Stand p l e ({ frames := 3, cells := 0, slots := 0, locals := 40 } : Room) s m #[(.ref s_), (.int i)] below meth c s₁ [] 0 0 := Stand.of_body Bd
  have e0 : s₁.heap = h0 := by rw [← hh, Bd.state]; rfl
  have N0 := Fr.nil n0
  show own_Ends p e below s₁ (entryFrame m #[(.ref s_), (.int i)] 2) (fun ou Uw => ∃ vu Lu, ou = .returned vu ∧ Q_own_rca cv h0 n0 vu Uw.heap Lu ∧ FrameEnd s ou Uw Lu ({ frames := 3, cells := 0, slots := 0, locals := 40 } : Room).cells ({ frames := 3, cells := 0, slots := 0, locals := 40 } : Room).slots)
  refine own_start (g' := (mkF m 0 #[rv s_, iv i] [])) (by first | (simp [entryFrame, mkF, argsToLocals, Value.category, iv, rv]; done) | rfl) ?_
  refine own_go (T' := s₁) (g' := (mkF m 1 #[rv s_, iv i] [(.ref s_)])) (fun t k => XS.aloadN X0.here hx rfl (hb hby own_d_jdk_42_method_56_code_0) rfl rfl k) ?_
  obtain ⟨cq290, kq290, q290a, q290b, q290c⟩ := isOf hZ e0 E_s
  obtain ⟨_, _, ⟨T290, L290, k290, n290⟩, -, X290, ⟨Lc290, hQ290, l290, y290, z290⟩, st290⟩ := X0.virtualBack hx (y := (⟨"java/lang/String", "isLatin1", "()Z"⟩ : MethodName)) (z := (⟨"java/lang/String", "isLatin1", "()Z"⟩ : MethodName)) hown (mvT hZ (hw _ (List.mem_of_getElem? (i := 62) rfl))) (mvT hZ (hw _ (List.mem_of_getElem? (i := 63) rfl))) (notFace_of_selects (args := #[]) (mvT hZ (hw _ (List.mem_of_getElem? (i := 65) rfl)))) (mvT hZ (hw _ (List.mem_of_getElem? (i := 65) rfl))) (mvT hZ (hw _ (List.mem_of_getElem? (i := 64) rfl))) (by decide) (backOf (W := 0) (own_ril l Z a0 hw [] s_ cp h0 n0 Z0 F_c S_cp hcp) hZ (hw _ (List.mem_of_getElem? (i := 66) rfl)) (hw _ (List.mem_of_getElem? (i := 10) rfl)) (by decide) (by decide)) q290a q290c (g := (mkF m 1 #[rv s_, iv i] [(.ref s_)])) rfl (by rw [hml]; rfl) (Steps.refl _) (argsL := []) (rest := []) (lenOf own_pd7 rfl) rfl (by show 2 * 0 + _ ≤ _; exact Nat.le_of_eq rfl) (hb hby own_d_jdk_42_method_56_code_1) (fun _ _ => ⟨rfl, e0, (by decide : 0 + 0 ≤ _), (by decide : 0 + 0 ≤ _)⟩)
  dsimp only [Pt.U, Pt.locs, Pt.cells, Pt.slots] at X290 l290 y290 z290 st290 hQ290
  subst l290 y290 z290
  obtain ⟨rfl, rfl, e290⟩ := hQ290
  have E290q : T290.heap = h0 := e290
  have N290 := Fr.app N0 (Fr.nil n0)
  refine own_go (T' := T290) (g' := (mkF m 4 #[rv s_, iv i] [(.int (1 : Int32))])) (fun t k => st290.trans k) ?_
  refine own_go (T' := T290) (g' := (mkF m 7 #[rv s_, iv i] [])) (fun t k => XS.ifNo X290.here hx rfl (hb hby own_d_jdk_42_method_56_code_4) rfl ((if0 _ _).trans (feq (by decide : ¬ ((1 : Int32) = (0 : Int32)))).1) k) ?_
  refine own_go (T' := T290) (g' := (mkF m 8 #[rv s_, iv i] [(.ref s_)])) (fun t k => XS.aloadN X290.here hx rfl (hb hby own_d_jdk_42_method_56_code_7) rfl rfl k) ?_
  obtain ⟨T291, X291, e291, st291⟩ := getF X290 hx hZ hown (host := "") (Or.inl (hw _ (List.mem_of_getElem? (i := 36) rfl))) Via.refl E290q F_v (g := (mkF m 8 #[rv s_, iv i] [(.ref s_)])) rfl rfl (hb hby own_d_jdk_42_method_56_code_8)
  refine own_go (T' := T291) (g' := (mkF m 11 #[rv s_, iv i] [(.ref b)])) (st291) ?_
  refine own_go (T' := T291) (g' := (mkF m 12 #[rv s_, iv i] [(.int i), (.ref b)])) (fun t k => XS.iloadN X291.here hx rfl (hb hby own_d_jdk_42_method_56_code_11) rfl k) ?_
  obtain ⟨_, _, ⟨T292, L292, k292, n292⟩, -, X292, ⟨Lc292, hQ292, l292, y292, z292⟩, st292⟩ := Jvm.LawKit.callS X291 hx (y := (⟨"java/lang/StringLatin1", "charAt", "([BI)C"⟩ : MethodName)) hown (mvT hZ (hw _ (List.mem_of_getElem? (i := 67) rfl))) (mvT hZ (hw _ (List.mem_of_getElem? (i := 68) rfl))) (mvT hZ (hw _ (List.mem_of_getElem? (i := 69) rfl))) (mvT hZ (hw _ (List.mem_of_getElem? (i := 70) rfl))) (by decide) (backOf (W := 0) (own_rla l Z a0 hw [] b kb i z cv vs fm h0 n0 Z0 V_b hi hz ha qc S_fm hfm) hZ (hw _ (List.mem_of_getElem? (i := 70) rfl)) (hw _ (List.mem_of_getElem? (i := 69) rfl)) (by decide) (by decide)) (g := (mkF m 12 #[rv s_, iv i] [(.int i), (.ref b)])) rfl (by rw [hml]; rfl) (argsL := [(.ref b), (.int i)]) (rest := []) (lenOf own_pd8 rfl) rfl (by show 2 * 0 + _ ≤ _; exact Nat.le_of_eq rfl) (hb hby own_d_jdk_42_method_56_code_12) (fun _ _ => ⟨rfl, e291, (by decide : 0 + 0 ≤ _), (by decide : 0 + 0 ≤ _)⟩)
  dsimp only [Pt.U, Pt.locs, Pt.cells, Pt.slots] at X292 l292 y292 z292 st292 hQ292
  subst l292 y292 z292
  obtain ⟨rfl, rfl, e292⟩ := hQ292
  have E292q : T292.heap = h0 := e292
  have N292 := Fr.app N290 (Fr.nil n0)
  refine own_go (T' := T292) (g' := (mkF m 15 #[rv s_, iv i] [(.int cv)])) (st292) ?_
  exact own_ret X292 hlk hx Bd.returns (own_narc qc) (Or.inl ⟨rfl, Or.inr (Or.inr (Or.inr (Or.inl rfl))), _, rfl⟩) (hb hby own_d_jdk_42_method_56_code_15) ⟨rfl, rfl, E292q⟩ (by decide) (by decide)

theorem own_pd9 : parseMethodDescriptor "()B" = some ⟨[], some .byte⟩ := by decide +kernel
theorem own_d_jdk_42_method_54_code_0 : decode jdk_42_method_54_code 0 = .ok (.aload_n 0, 1) := by decide +kernel
theorem own_d_jdk_42_method_54_code_1 : decode jdk_42_method_54_code 1 = .ok (.getfield 9, 3) := by decide +kernel
theorem own_d_jdk_42_method_54_code_4 : decode jdk_42_method_54_code 4 = .ok (.arraylength, 1) := by decide +kernel
theorem own_d_jdk_42_method_54_code_5 : decode jdk_42_method_54_code 5 = .ok (.aload_n 0, 1) := by decide +kernel
theorem own_d_jdk_42_method_54_code_6 : decode jdk_42_method_54_code 6 = .ok (.invokevirtual 335, 3) := by decide +kernel
theorem own_d_jdk_42_method_54_code_9 : decode jdk_42_method_54_code 9 = .ok (.ishr, 1) := by decide +kernel
theorem own_d_jdk_42_method_54_code_10 : decode jdk_42_method_54_code 10 = .ok (.ireturn, 1) := by decide +kernel
def Q_own_rln (z : Int32) (h0 : Heap) (n0 : Nat) (v : Option Value) (h : Heap) (L : List Loc) : Prop := v = some (.int z) ∧ L = [] ∧ h = h0
set_option maxRecDepth 65536 in
set_option maxHeartbeats 40000000 in
theorem own_rln (l : Launch) (Z : State) (a0 : Array Value) (hw : ∀ d ∈ tables_1, d.before a0 Z = true) (ws : List Jvm.Cond) (s_ b : Addr) (kb : ClassId) (z cp : Int32) (vs : List Value) (h0 : Heap) (n0 : Nat) (Z0 : n0 ≤ h0.size) (E_s : Exa Z h0 s_ "java/lang/String") (F_c : Fld Z h0 s_ "java/lang/String" "coder" "B" (.int 0)) (F_v : Fld Z h0 s_ "java/lang/String" "value" "[B" (.ref b)) (V_b : Arv Z h0 b kb .byte z vs (.int (0 : Int32))) (S_cp : Sta Z h0 "java/lang/String" "COMPACT_STRINGS" "Z" (.int cp)) (hcp : ¬ cp = 0) (hsh : z >>> ((0 : Int32) &&& 31) = z) :
    MetFree l (⟨"java/lang/String", "length", "()I"⟩ : MethodName) (head1 (Jvm.Cond.code (⟨"java/lang/String", "length", "()I"⟩ : MethodName) jdk_42_method_54_code 1 (some .int) :: ws) ({ frames := 1, cells := 0, slots := 0, locals := 13 } : Room)) (fun au Uu => au = #[(.ref s_)] ∧ Z.Warmed39 Uu.vm ∧ Uu.heap = h0) (fun _ _ _ _ _ => True) (fun _ Uu ou Uw => ∃ vu Lu, ou = .returned vu ∧ Q_own_rln z h0 n0 vu Uw.heap Lu ∧ FrameEnd Uu ou Uw Lu ({ frames := 1, cells := 0, slots := 0, locals := 13 } : Room).cells ({ frames := 1, cells := 0, slots := 0, locals := 13 } : Room).slots) := by
  refine MetFree.of_bodySF (plainFor_of_name (by first | (simp [plainName, overriddenIn]; done) | decide +kernel)) hisR ?_
  intro p e s m args below meth c s₁ Bd hml0 hP hK
  obtain ⟨rfl, hZ, hh⟩ := hP
  have hx := Bd.exec
  have hby := Bd.bytes
  have hlk := Bd.notSynchronized
  have hml : c.maxLocals = 1 := hml0
  have hown : s.vm.findClass "java/lang/String" = some m.cls := findClass_of_methodNamed Bd.named
  have hnm := (name_of_methodNamed Bd.named Bd.method).1
  have X0 : Stand p l e ({ frames := 1, cells := 0, slots := 0, locals := 13 } : Room) s m #[(.ref s_)] below meth c s₁ [] 0 0 := Stand.of_body Bd
  have e0 : s₁.heap = h0 := by rw [← hh, Bd.state]; rfl
  have N0 := Fr.nil n0
  show own_Ends p e below s₁ (entryFrame m #[(.ref s_)] 1) (fun ou Uw => ∃ vu Lu, ou = .returned vu ∧ Q_own_rln z h0 n0 vu Uw.heap Lu ∧ FrameEnd s ou Uw Lu ({ frames := 1, cells := 0, slots := 0, locals := 13 } : Room).cells ({ frames := 1, cells := 0, slots := 0, locals := 13 } : Room).slots)
  refine own_start (g' := (mkF m 0 #[rv s_] [])) (by first | (simp [entryFrame, mkF, argsToLocals, Value.category, iv, rv]; done) | rfl) ?_
  refine own_go (T' := s₁) (g' := (mkF m 1 #[rv s_] [(.ref s_)])) (fun t k => XS.aloadN X0.here hx rfl (hb hby own_d_jdk_42_method_54_code_0) rfl rfl k) ?_
  obtain ⟨T293, X293, e293, st293⟩ := getF X0 hx hZ hown (host := "") (Or.inl (hw _ (List.mem_of_getElem? (i := 36) rfl))) Via.refl e0 F_v (g := (mkF m 1 #[rv s_] [(.ref s_)])) rfl rfl (hb hby own_d_jdk_42_method_54_code_1)
  refine own_go (T' := T293) (g' := (mkF m 4 #[rv s_] [(.ref b)])) (st293) ?_
  obtain ⟨cl294, Ar294, -, Sz294, Nn294, -, -⟩ := id V_b
  refine own_go (T' := T293) (g' := (mkF m 5 #[rv s_] [(.int z)])) (fun t k => X293.arraylength hx (by rw [e293]; exact Ar294.1) (State.isArrayOf_alike hZ.alike Ar294.2.1) (g := (mkF m 4 #[rv s_] [(.ref b)])) rfl rfl (hb hby own_d_jdk_42_method_54_code_4) _ (by rw [len_of Sz294 Nn294]; exact k)) ?_
  refine own_go (T' := T293) (g' := (mkF m 6 #[rv s_] [(.ref s_), (.int z)])) (fun t k => XS.aloadN X293.here hx rfl (hb hby own_d_jdk_42_method_54_code_5) rfl rfl k) ?_
  obtain ⟨cq295, kq295, q295a, q295b, q295c⟩ := isOf hZ e293 E_s
  obtain ⟨_, _, ⟨T295, L295, k295, n295⟩, -, X295, ⟨Lc295, hQ295, l295, y295, z295⟩, st295⟩ := X293.virtualBack hx (y := (⟨"java/lang/String", "coder", "()B"⟩ : MethodName)) (z := (⟨"java/lang/String", "coder", "()B"⟩ : MethodName)) hown (mvT hZ (hw _ (List.mem_of_getElem? (i := 84) rfl))) (mvT hZ (hw _ (List.mem_of_getElem? (i := 85) rfl))) (notFace_of_selects (args := #[]) (mvT hZ (hw _ (List.mem_of_getElem? (i := 87) rfl)))) (mvT hZ (hw _ (List.mem_of_getElem? (i := 87) rfl))) (mvT hZ (hw _ (List.mem_of_getElem? (i := 86) rfl))) (by decide) (backOf (W := 1) (own_rcd l Z a0 hw [] s_ cp h0 n0 Z0 F_c S_cp hcp) hZ (hw _ (List.mem_of_getElem? (i := 88) rfl)) (hw _ (List.mem_of_getElem? (i := 10) rfl)) (by decide) (by decide)) q295a q295c (g := (mkF m 6 #[rv s_] [(.ref s_), (.int z)])) rfl (by rw [hml]; rfl) (Steps.refl _) (argsL := []) (rest := [(.int z)]) (lenOf own_pd9 rfl) rfl (by show 2 * 0 + _ ≤ _; exact Nat.le_of_eq rfl) (hb hby own_d_jdk_42_method_54_code_6) (fun _ _ => ⟨rfl, e293, (by decide : 0 + 0 ≤ _), (by decide : 0 + 0 ≤ _)⟩)
  dsimp only [Pt.U, Pt.locs, Pt.cells, Pt.slots] at X295 l295 y295 z295 st295 hQ295
  subst l295 y295 z295
  obtain ⟨rfl, rfl, e295⟩ := hQ295
  have E295q : T295.heap = h0 := e295
  have N295 := Fr.app N0 (Fr.nil n0)
  refine own_go (T' := T295) (g' := (mkF m 9 #[rv s_] [(.int (0 : Int32)), (.int z)])) (fun t k => st295.trans k) ?_
  refine own_go (T' := T295) (g' := (mkF m 10 #[rv s_] [(.int (z >>> ((0 : Int32) &&& 31)))])) (fun t k => XS.ishr X295.here hx rfl (hb hby own_d_jdk_42_method_54_code_9) rfl k) ?_
  exact own_ret X295 hlk hx Bd.returns rfl (Or.inl ⟨rfl, Or.inl rfl, _, rfl⟩) (hb hby own_d_jdk_42_method_54_code_10) ⟨congrArg (fun z => some (Value.int z)) hsh, rfl, E295q⟩ (by decide) (by decide)

theorem own_d_jdk_123_method_3_code_0 : decode jdk_123_method_3_code 0 = .ok (.iload_n 1, 1) := by decide +kernel
theorem own_d_jdk_123_method_3_code_1 : decode jdk_123_method_3_code 1 = .ok (.iload_n 2, 1) := by decide +kernel
theorem own_d_jdk_123_method_3_code_2 : decode jdk_123_method_3_code 2 = .ok (.iadd, 1) := by decide +kernel
theorem own_d_jdk_123_method_3_code_3 : decode jdk_123_method_3_code 3 = .ok (.istore_n 3, 1) := by decide +kernel
theorem own_d_jdk_123_method_3_code_4 : decode jdk_123_method_3_code 4 = .ok (.iload_n 1, 1) := by decide +kernel
theorem own_d_jdk_123_method_3_code_5 : decode jdk_123_method_3_code 5 = .ok (.istore 4, 2) := by decide +kernel
theorem own_d_jdk_123_method_3_code_7 : decode jdk_123_method_3_code 7 = .ok (.iload 4, 2) := by decide +kernel
theorem own_d_jdk_123_method_3_code_9 : decode jdk_123_method_3_code 9 = .ok (.iload_n 3, 1) := by decide +kernel
theorem own_d_jdk_123_method_3_code_10 : decode jdk_123_method_3_code 10 = .ok (.if_icmp .ge 21, 3) := by decide +kernel
theorem own_d_jdk_123_method_3_code_13 : decode jdk_123_method_3_code 13 = .ok (.aload_n 0, 1) := by decide +kernel
theorem own_d_jdk_123_method_3_code_14 : decode jdk_123_method_3_code 14 = .ok (.iload 4, 2) := by decide +kernel
theorem own_d_jdk_123_method_3_code_16 : decode jdk_123_method_3_code 16 = .ok (.baload, 1) := by decide +kernel
theorem own_d_jdk_123_method_3_code_17 : decode jdk_123_method_3_code 17 = .ok (.ifCond .ge 8, 3) := by decide +kernel
theorem own_d_jdk_123_method_3_code_25 : decode jdk_123_method_3_code 25 = .ok (.iinc 4 1, 3) := by decide +kernel
theorem own_d_jdk_123_method_3_code_28 : decode jdk_123_method_3_code 28 = .ok (.goto (-21), 3) := by decide +kernel
theorem own_d_jdk_123_method_3_code_31 : decode jdk_123_method_3_code 31 = .ok (.iload_n 2, 1) := by decide +kernel
theorem own_d_jdk_123_method_3_code_32 : decode jdk_123_method_3_code 32 = .ok (.ireturn, 1) := by decide +kernel
def Q_own_rcp (z : Int32) (h0 : Heap) (n0 : Nat) (v : Option Value) (h : Heap) (L : List Loc) : Prop := v = some (.int z) ∧ L = [] ∧ h = h0
set_option maxRecDepth 65536 in
set_option maxHeartbeats 40000000 in
theorem own_rcp (l : Launch) (Z : State) (a0 : Array Value) (hw : ∀ d ∈ tables_1, d.before a0 Z = true) (ws : List Jvm.Cond) (b : Addr) (kb : ClassId) (z : Int32) (cs : List Int32) (h0 : Heap) (n0 : Nat) (Z0 : n0 ≤ h0.size) (V_b : Arv Z h0 b kb .byte z (cs.map Value.int) (.int (0 : Int32))) (ok : own_OK z cs) :
    MetFree l (⟨"java/lang/StringCoding", "countPositives", "([BII)I"⟩ : MethodName) (head1 (Jvm.Cond.code (⟨"java/lang/StringCoding", "countPositives", "([BII)I"⟩ : MethodName) jdk_123_method_3_code 5 (some .int) :: ws) ({ frames := 0, cells := 0, slots := 0, locals := 0 } : Room)) (fun au Uu => au = #[(.ref b), (.int (0 : Int32)), (.int z)] ∧ Z.Warmed39 Uu.vm ∧ Uu.heap = h0) (fun _ _ _ _ _ => True) (fun _ Uu ou Uw => ∃ vu Lu, ou = .returned vu ∧ Q_own_rcp z h0 n0 vu Uw.heap Lu ∧ FrameEnd Uu ou Uw Lu ({ frames := 0, cells := 0, slots := 0, locals := 0 } : Room).cells ({ frames := 0, cells := 0, slots := 0, locals := 0 } : Room).slots) := by
  refine MetFree.of_bodySF (plainFor_of_name (by first | (simp [plainName, overriddenIn]; done) | decide +kernel)) hisR ?_
  intro p e s m args below meth c s₁ Bd hml0 hP hK
  obtain ⟨rfl, hZ, hh⟩ := hP
  have hx := Bd.exec
  have hby := Bd.bytes
  have hlk := Bd.notSynchronized
  have hml : c.maxLocals = 5 := hml0
  have hown : s.vm.findClass "java/lang/StringCoding" = some m.cls := findClass_of_methodNamed Bd.named
  have hnm := (name_of_methodNamed Bd.named Bd.method).1
  have X0 : Stand p l e ({ frames := 0, cells := 0, slots := 0, locals := 0 } : Room) s m #[(.ref b), (.int (0 : Int32)), (.int z)] below meth c s₁ [] 0 0 := Stand.of_body Bd
  have e0 : s₁.heap = h0 := by rw [← hh, Bd.state]; rfl
  have N0 := Fr.nil n0
  show own_Ends p e below s₁ (entryFrame m #[(.ref b), (.int (0 : Int32)), (.int z)] 5) (fun ou Uw => ∃ vu Lu, ou = .returned vu ∧ Q_own_rcp z h0 n0 vu Uw.heap Lu ∧ FrameEnd s ou Uw Lu ({ frames := 0, cells := 0, slots := 0, locals := 0 } : Room).cells ({ frames := 0, cells := 0, slots := 0, locals := 0 } : Room).slots)
  refine own_start (g' := (mkF m 0 #[rv b, iv (0 : Int32), iv z, .unset, .unset] [])) (by first | (simp [entryFrame, mkF, argsToLocals, Value.category, iv, rv]; done) | rfl) ?_
  rcases ok with ⟨c0, rfl, rfl, q0⟩ | ⟨c0, c1, rfl, rfl, q0, q1⟩ | ⟨c0, c1, c2, rfl, rfl, q0, q1, q2⟩
  · have V296 : Arv Z h0 b kb .byte (1 : Int32) [(.int c0)] (.int (0 : Int32)) := V_b
    refine own_go (T' := s₁) (g' := (mkF m 1 #[rv b, iv (0 : Int32), iv (1 : Int32), .unset, .unset] [(.int (0 : Int32))])) (fun t k => XS.iloadN X0.here hx rfl (hb hby own_d_jdk_123_method_3_code_0) rfl k) ?_
    refine own_go (T' := s₁) (g' := (mkF m 2 #[rv b, iv (0 : Int32), iv (1 : Int32), .unset, .unset] [(.int (1 : Int32)), (.int (0 : Int32))])) (fun t k => XS.iloadN X0.here hx rfl (hb hby own_d_jdk_123_method_3_code_1) rfl k) ?_
    refine own_go (T' := s₁) (g' := (mkF m 3 #[rv b, iv (0 : Int32), iv (1 : Int32), .unset, .unset] [(.int (1 : Int32))])) (fun t k => XS.iadd X0.here hx rfl (hb hby own_d_jdk_123_method_3_code_2) rfl k) ?_
    refine own_go (T' := s₁) (g' := (mkF m 4 #[rv b, iv (0 : Int32), iv (1 : Int32), iv (1 : Int32), .unset] [])) (fun t k => XS.istoreN X0.here hx rfl (hb hby own_d_jdk_123_method_3_code_3) rfl (l' := #[rv b, iv (0 : Int32), iv (1 : Int32), iv (1 : Int32), .unset]) rfl k) ?_
    refine own_go (T' := s₁) (g' := (mkF m 5 #[rv b, iv (0 : Int32), iv (1 : Int32), iv (1 : Int32), .unset] [(.int (0 : Int32))])) (fun t k => XS.iloadN X0.here hx rfl (hb hby own_d_jdk_123_method_3_code_4) rfl k) ?_
    refine own_go (T' := s₁) (g' := (mkF m 7 #[rv b, iv (0 : Int32), iv (1 : Int32), iv (1 : Int32), iv (0 : Int32)] [])) (fun t k => XS.istore X0.here hx rfl (hb hby own_d_jdk_123_method_3_code_5) rfl (l' := #[rv b, iv (0 : Int32), iv (1 : Int32), iv (1 : Int32), iv (0 : Int32)]) rfl k) ?_
    refine own_go (T' := s₁) (g' := (mkF m 9 #[rv b, iv (0 : Int32), iv (1 : Int32), iv (1 : Int32), iv (0 : Int32)] [(.int (0 : Int32))])) (fun t k => XS.iload X0.here hx rfl (hb hby own_d_jdk_123_method_3_code_7) rfl k) ?_
    refine own_go (T' := s₁) (g' := (mkF m 10 #[rv b, iv (0 : Int32), iv (1 : Int32), iv (1 : Int32), iv (0 : Int32)] [(.int (1 : Int32)), (.int (0 : Int32))])) (fun t k => XS.iloadN X0.here hx rfl (hb hby own_d_jdk_123_method_3_code_9) rfl k) ?_
    refine own_go (T' := s₁) (g' := (mkF m 13 #[rv b, iv (0 : Int32), iv (1 : Int32), iv (1 : Int32), iv (0 : Int32)] [])) (fun t k => XS.icmpNo X0.here hx rfl (hb hby own_d_jdk_123_method_3_code_10) rfl (tlt (by decide : ((0 : Int32) < (1 : Int32)))).2.1 k) ?_
    refine own_go (T' := s₁) (g' := (mkF m 14 #[rv b, iv (0 : Int32), iv (1 : Int32), iv (1 : Int32), iv (0 : Int32)] [(.ref b)])) (fun t k => XS.aloadN X0.here hx rfl (hb hby own_d_jdk_123_method_3_code_13) rfl rfl k) ?_
    refine own_go (T' := s₁) (g' := (mkF m 16 #[rv b, iv (0 : Int32), iv (1 : Int32), iv (1 : Int32), iv (0 : Int32)] [(.int (0 : Int32)), (.ref b)])) (fun t k => XS.iload X0.here hx rfl (hb hby own_d_jdk_123_method_3_code_14) rfl k) ?_
    obtain ⟨cl297, Ar297, -, Sz297, Nn297, Ha297, -⟩ := id V296
    have hin297 : ¬ ((0 : Int32) < 0 ∨ cl297.slots.size ≤ ((0 : Int32)).toNatClampNeg) := inb_of Sz297 ⟨by decide, by decide⟩
    have hat297 : cl297.slots[((0 : Int32)).toNatClampNeg]? = some (.int c0) := Ha297.at hin297 rfl
    refine own_go (T' := s₁) (g' := (mkF m 17 #[rv b, iv (0 : Int32), iv (1 : Int32), iv (1 : Int32), iv (0 : Int32)] [(.int c0)])) (fun t k => X0.baloadBytes hx (j := (0 : Int32)) (v := (.int c0)) (by rw [e0]; exact Ar297.1) (State.isArrayOf_alike hZ.alike Ar297.2.1) Ar297.2.2 hin297 hat297 (g := (mkF m 16 #[rv b, iv (0 : Int32), iv (1 : Int32), iv (1 : Int32), iv (0 : Int32)] [(.int (0 : Int32)), (.ref b)])) rfl rfl (hb hby own_d_jdk_123_method_3_code_16) _ k) ?_
    refine own_go (T' := s₁) (g' := (mkF m 25 #[rv b, iv (0 : Int32), iv (1 : Int32), iv (1 : Int32), iv (0 : Int32)] [])) (fun t k => XS.ifYes X0.here hx rfl (pc0 := 17) (pc' := 25) rfl (hb hby own_d_jdk_123_method_3_code_17) rfl ((if0 _ _).trans (flt (own_cnn q0 : ¬ (c0 < (0 : Int32)))).2.1) (by decide) (by decide) k) ?_
    refine own_go (T' := s₁) (g' := (mkF m 28 #[rv b, iv (0 : Int32), iv (1 : Int32), iv (1 : Int32), iv (1 : Int32)] [])) (fun t k => XS.iinc X0.here hx rfl (hb hby own_d_jdk_123_method_3_code_25) rfl (l' := #[rv b, iv (0 : Int32), iv (1 : Int32), iv (1 : Int32), iv (1 : Int32)]) rfl k) ?_
    refine own_go (T' := s₁) (g' := (mkF m 7 #[rv b, iv (0 : Int32), iv (1 : Int32), iv (1 : Int32), iv (1 : Int32)] [])) (fun t k => XS.goto X0.here hx rfl (pc0 := 28) (pc' := 7) rfl (hb hby own_d_jdk_123_method_3_code_28) (by decide) (by decide) k) ?_
    refine own_go (T' := s₁) (g' := (mkF m 9 #[rv b, iv (0 : Int32), iv (1 : Int32), iv (1 : Int32), iv (1 : Int32)] [(.int (1 : Int32))])) (fun t k => XS.iload X0.here hx rfl (hb hby own_d_jdk_123_method_3_code_7) rfl k) ?_
    refine own_go (T' := s₁) (g' := (mkF m 10 #[rv b, iv (0 : Int32), iv (1 : Int32), iv (1 : Int32), iv (1 : Int32)] [(.int (1 : Int32)), (.int (1 : Int32))])) (fun t k => XS.iloadN X0.here hx rfl (hb hby own_d_jdk_123_method_3_code_9) rfl k) ?_
    refine own_go (T' := s₁) (g' := (mkF m 31 #[rv b, iv (0 : Int32), iv (1 : Int32), iv (1 : Int32), iv (1 : Int32)] [])) (fun t k => XS.icmpYes X0.here hx rfl (pc0 := 10) (pc' := 31) rfl (hb hby own_d_jdk_123_method_3_code_10) rfl (flt (by decide : ¬ ((1 : Int32) < (1 : Int32)))).2.1 (by decide) (by decide) k) ?_
    refine own_go (T' := s₁) (g' := (mkF m 32 #[rv b, iv (0 : Int32), iv (1 : Int32), iv (1 : Int32), iv (1 : Int32)] [(.int (1 : Int32))])) (fun t k => XS.iloadN X0.here hx rfl (hb hby own_d_jdk_123_method_3_code_31) rfl k) ?_
    exact own_ret X0 hlk hx Bd.returns rfl (Or.inl ⟨rfl, Or.inl rfl, _, rfl⟩) (hb hby own_d_jdk_123_method_3_code_32) ⟨rfl, rfl, e0⟩ (by decide) (by decide)
  · have V298 : Arv Z h0 b kb .byte (2 : Int32) [(.int c0), (.int c1)] (.int (0 : Int32)) := V_b
    refine own_go (T' := s₁) (g' := (mkF m 1 #[rv b, iv (0 : Int32), iv (2 : Int32), .unset, .unset] [(.int (0 : Int32))])) (fun t k => XS.iloadN X0.here hx rfl (hb hby own_d_jdk_123_method_3_code_0) rfl k) ?_
    refine own_go (T' := s₁) (g' := (mkF m 2 #[rv b, iv (0 : Int32), iv (2 : Int32), .unset, .unset] [(.int (2 : Int32)), (.int (0 : Int32))])) (fun t k => XS.iloadN X0.here hx rfl (hb hby own_d_jdk_123_method_3_code_1) rfl k) ?_
    refine own_go (T' := s₁) (g' := (mkF m 3 #[rv b, iv (0 : Int32), iv (2 : Int32), .unset, .unset] [(.int (2 : Int32))])) (fun t k => XS.iadd X0.here hx rfl (hb hby own_d_jdk_123_method_3_code_2) rfl k) ?_
    refine own_go (T' := s₁) (g' := (mkF m 4 #[rv b, iv (0 : Int32), iv (2 : Int32), iv (2 : Int32), .unset] [])) (fun t k => XS.istoreN X0.here hx rfl (hb hby own_d_jdk_123_method_3_code_3) rfl (l' := #[rv b, iv (0 : Int32), iv (2 : Int32), iv (2 : Int32), .unset]) rfl k) ?_
    refine own_go (T' := s₁) (g' := (mkF m 5 #[rv b, iv (0 : Int32), iv (2 : Int32), iv (2 : Int32), .unset] [(.int (0 : Int32))])) (fun t k => XS.iloadN X0.here hx rfl (hb hby own_d_jdk_123_method_3_code_4) rfl k) ?_
    refine own_go (T' := s₁) (g' := (mkF m 7 #[rv b, iv (0 : Int32), iv (2 : Int32), iv (2 : Int32), iv (0 : Int32)] [])) (fun t k => XS.istore X0.here hx rfl (hb hby own_d_jdk_123_method_3_code_5) rfl (l' := #[rv b, iv (0 : Int32), iv (2 : Int32), iv (2 : Int32), iv (0 : Int32)]) rfl k) ?_
    refine own_go (T' := s₁) (g' := (mkF m 9 #[rv b, iv (0 : Int32), iv (2 : Int32), iv (2 : Int32), iv (0 : Int32)] [(.int (0 : Int32))])) (fun t k => XS.iload X0.here hx rfl (hb hby own_d_jdk_123_method_3_code_7) rfl k) ?_
    refine own_go (T' := s₁) (g' := (mkF m 10 #[rv b, iv (0 : Int32), iv (2 : Int32), iv (2 : Int32), iv (0 : Int32)] [(.int (2 : Int32)), (.int (0 : Int32))])) (fun t k => XS.iloadN X0.here hx rfl (hb hby own_d_jdk_123_method_3_code_9) rfl k) ?_
    refine own_go (T' := s₁) (g' := (mkF m 13 #[rv b, iv (0 : Int32), iv (2 : Int32), iv (2 : Int32), iv (0 : Int32)] [])) (fun t k => XS.icmpNo X0.here hx rfl (hb hby own_d_jdk_123_method_3_code_10) rfl (tlt (by decide : ((0 : Int32) < (2 : Int32)))).2.1 k) ?_
    refine own_go (T' := s₁) (g' := (mkF m 14 #[rv b, iv (0 : Int32), iv (2 : Int32), iv (2 : Int32), iv (0 : Int32)] [(.ref b)])) (fun t k => XS.aloadN X0.here hx rfl (hb hby own_d_jdk_123_method_3_code_13) rfl rfl k) ?_
    refine own_go (T' := s₁) (g' := (mkF m 16 #[rv b, iv (0 : Int32), iv (2 : Int32), iv (2 : Int32), iv (0 : Int32)] [(.int (0 : Int32)), (.ref b)])) (fun t k => XS.iload X0.here hx rfl (hb hby own_d_jdk_123_method_3_code_14) rfl k) ?_
    obtain ⟨cl299, Ar299, -, Sz299, Nn299, Ha299, -⟩ := id V298
    have hin299 : ¬ ((0 : Int32) < 0 ∨ cl299.slots.size ≤ ((0 : Int32)).toNatClampNeg) := inb_of Sz299 ⟨by decide, by decide⟩
    have hat299 : cl299.slots[((0 : Int32)).toNatClampNeg]? = some (.int c0) := Ha299.at hin299 rfl
    refine own_go (T' := s₁) (g' := (mkF m 17 #[rv b, iv (0 : Int32), iv (2 : Int32), iv (2 : Int32), iv (0 : Int32)] [(.int c0)])) (fun t k => X0.baloadBytes hx (j := (0 : Int32)) (v := (.int c0)) (by rw [e0]; exact Ar299.1) (State.isArrayOf_alike hZ.alike Ar299.2.1) Ar299.2.2 hin299 hat299 (g := (mkF m 16 #[rv b, iv (0 : Int32), iv (2 : Int32), iv (2 : Int32), iv (0 : Int32)] [(.int (0 : Int32)), (.ref b)])) rfl rfl (hb hby own_d_jdk_123_method_3_code_16) _ k) ?_
    refine own_go (T' := s₁) (g' := (mkF m 25 #[rv b, iv (0 : Int32), iv (2 : Int32), iv (2 : Int32), iv (0 : Int32)] [])) (fun t k => XS.ifYes X0.here hx rfl (pc0 := 17) (pc' := 25) rfl (hb hby own_d_jdk_123_method_3_code_17) rfl ((if0 _ _).trans (flt (own_cnn q0 : ¬ (c0 < (0 : Int32)))).2.1) (by decide) (by decide) k) ?_
    refine own_go (T' := s₁) (g' := (mkF m 28 #[rv b, iv (0 : Int32), iv (2 : Int32), iv (2 : Int32), iv (1 : Int32)] [])) (fun t k => XS.iinc X0.here hx rfl (hb hby own_d_jdk_123_method_3_code_25) rfl (l' := #[rv b, iv (0 : Int32), iv (2 : Int32), iv (2 : Int32), iv (1 : Int32)]) rfl k) ?_
    refine own_go (T' := s₁) (g' := (mkF m 7 #[rv b, iv (0 : Int32), iv (2 : Int32), iv (2 : Int32), iv (1 : Int32)] [])) (fun t k => XS.goto X0.here hx rfl (pc0 := 28) (pc' := 7) rfl (hb hby own_d_jdk_123_method_3_code_28) (by decide) (by decide) k) ?_
    refine own_go (T' := s₁) (g' := (mkF m 9 #[rv b, iv (0 : Int32), iv (2 : Int32), iv (2 : Int32), iv (1 : Int32)] [(.int (1 : Int32))])) (fun t k => XS.iload X0.here hx rfl (hb hby own_d_jdk_123_method_3_code_7) rfl k) ?_
    refine own_go (T' := s₁) (g' := (mkF m 10 #[rv b, iv (0 : Int32), iv (2 : Int32), iv (2 : Int32), iv (1 : Int32)] [(.int (2 : Int32)), (.int (1 : Int32))])) (fun t k => XS.iloadN X0.here hx rfl (hb hby own_d_jdk_123_method_3_code_9) rfl k) ?_
    refine own_go (T' := s₁) (g' := (mkF m 13 #[rv b, iv (0 : Int32), iv (2 : Int32), iv (2 : Int32), iv (1 : Int32)] [])) (fun t k => XS.icmpNo X0.here hx rfl (hb hby own_d_jdk_123_method_3_code_10) rfl (tlt (by decide : ((1 : Int32) < (2 : Int32)))).2.1 k) ?_
    refine own_go (T' := s₁) (g' := (mkF m 14 #[rv b, iv (0 : Int32), iv (2 : Int32), iv (2 : Int32), iv (1 : Int32)] [(.ref b)])) (fun t k => XS.aloadN X0.here hx rfl (hb hby own_d_jdk_123_method_3_code_13) rfl rfl k) ?_
    refine own_go (T' := s₁) (g' := (mkF m 16 #[rv b, iv (0 : Int32), iv (2 : Int32), iv (2 : Int32), iv (1 : Int32)] [(.int (1 : Int32)), (.ref b)])) (fun t k => XS.iload X0.here hx rfl (hb hby own_d_jdk_123_method_3_code_14) rfl k) ?_
    obtain ⟨cl300, Ar300, -, Sz300, Nn300, Ha300, -⟩ := id V298
    have hin300 : ¬ ((1 : Int32) < 0 ∨ cl300.slots.size ≤ ((1 : Int32)).toNatClampNeg) := inb_of Sz300 ⟨by decide, by decide⟩
    have hat300 : cl300.slots[((1 : Int32)).toNatClampNeg]? = some (.int c1) := Ha300.at hin300 rfl
    refine own_go (T' := s₁) (g' := (mkF m 17 #[rv b, iv (0 : Int32), iv (2 : Int32), iv (2 : Int32), iv (1 : Int32)] [(.int c1)])) (fun t k => X0.baloadBytes hx (j := (1 : Int32)) (v := (.int c1)) (by rw [e0]; exact Ar300.1) (State.isArrayOf_alike hZ.alike Ar300.2.1) Ar300.2.2 hin300 hat300 (g := (mkF m 16 #[rv b, iv (0 : Int32), iv (2 : Int32), iv (2 : Int32), iv (1 : Int32)] [(.int (1 : Int32)), (.ref b)])) rfl rfl (hb hby own_d_jdk_123_method_3_code_16) _ k) ?_
    refine own_go (T' := s₁) (g' := (mkF m 25 #[rv b, iv (0 : Int32), iv (2 : Int32), iv (2 : Int32), iv (1 : Int32)] [])) (fun t k => XS.ifYes X0.here hx rfl (pc0 := 17) (pc' := 25) rfl (hb hby own_d_jdk_123_method_3_code_17) rfl ((if0 _ _).trans (flt (own_cnn q1 : ¬ (c1 < (0 : Int32)))).2.1) (by decide) (by decide) k) ?_
    refine own_go (T' := s₁) (g' := (mkF m 28 #[rv b, iv (0 : Int32), iv (2 : Int32), iv (2 : Int32), iv (2 : Int32)] [])) (fun t k => XS.iinc X0.here hx rfl (hb hby own_d_jdk_123_method_3_code_25) rfl (l' := #[rv b, iv (0 : Int32), iv (2 : Int32), iv (2 : Int32), iv (2 : Int32)]) rfl k) ?_
    refine own_go (T' := s₁) (g' := (mkF m 7 #[rv b, iv (0 : Int32), iv (2 : Int32), iv (2 : Int32), iv (2 : Int32)] [])) (fun t k => XS.goto X0.here hx rfl (pc0 := 28) (pc' := 7) rfl (hb hby own_d_jdk_123_method_3_code_28) (by decide) (by decide) k) ?_
    refine own_go (T' := s₁) (g' := (mkF m 9 #[rv b, iv (0 : Int32), iv (2 : Int32), iv (2 : Int32), iv (2 : Int32)] [(.int (2 : Int32))])) (fun t k => XS.iload X0.here hx rfl (hb hby own_d_jdk_123_method_3_code_7) rfl k) ?_
    refine own_go (T' := s₁) (g' := (mkF m 10 #[rv b, iv (0 : Int32), iv (2 : Int32), iv (2 : Int32), iv (2 : Int32)] [(.int (2 : Int32)), (.int (2 : Int32))])) (fun t k => XS.iloadN X0.here hx rfl (hb hby own_d_jdk_123_method_3_code_9) rfl k) ?_
    refine own_go (T' := s₁) (g' := (mkF m 31 #[rv b, iv (0 : Int32), iv (2 : Int32), iv (2 : Int32), iv (2 : Int32)] [])) (fun t k => XS.icmpYes X0.here hx rfl (pc0 := 10) (pc' := 31) rfl (hb hby own_d_jdk_123_method_3_code_10) rfl (flt (by decide : ¬ ((2 : Int32) < (2 : Int32)))).2.1 (by decide) (by decide) k) ?_
    refine own_go (T' := s₁) (g' := (mkF m 32 #[rv b, iv (0 : Int32), iv (2 : Int32), iv (2 : Int32), iv (2 : Int32)] [(.int (2 : Int32))])) (fun t k => XS.iloadN X0.here hx rfl (hb hby own_d_jdk_123_method_3_code_31) rfl k) ?_
    exact own_ret X0 hlk hx Bd.returns rfl (Or.inl ⟨rfl, Or.inl rfl, _, rfl⟩) (hb hby own_d_jdk_123_method_3_code_32) ⟨rfl, rfl, e0⟩ (by decide) (by decide)
  · have V301 : Arv Z h0 b kb .byte (3 : Int32) [(.int c0), (.int c1), (.int c2)] (.int (0 : Int32)) := V_b
    refine own_go (T' := s₁) (g' := (mkF m 1 #[rv b, iv (0 : Int32), iv (3 : Int32), .unset, .unset] [(.int (0 : Int32))])) (fun t k => XS.iloadN X0.here hx rfl (hb hby own_d_jdk_123_method_3_code_0) rfl k) ?_
    refine own_go (T' := s₁) (g' := (mkF m 2 #[rv b, iv (0 : Int32), iv (3 : Int32), .unset, .unset] [(.int (3 : Int32)), (.int (0 : Int32))])) (fun t k => XS.iloadN X0.here hx rfl (hb hby own_d_jdk_123_method_3_code_1) rfl k) ?_
    refine own_go (T' := s₁) (g' := (mkF m 3 #[rv b, iv (0 : Int32), iv (3 : Int32), .unset, .unset] [(.int (3 : Int32))])) (fun t k => XS.iadd X0.here hx rfl (hb hby own_d_jdk_123_method_3_code_2) rfl k) ?_
    refine own_go (T' := s₁) (g' := (mkF m 4 #[rv b, iv (0 : Int32), iv (3 : Int32), iv (3 : Int32), .unset] [])) (fun t k => XS.istoreN X0.here hx rfl (hb hby own_d_jdk_123_method_3_code_3) rfl (l' := #[rv b, iv (0 : Int32), iv (3 : Int32), iv (3 : Int32), .unset]) rfl k) ?_
    refine own_go (T' := s₁) (g' := (mkF m 5 #[rv b, iv (0 : Int32), iv (3 : Int32), iv (3 : Int32), .unset] [(.int (0 : Int32))])) (fun t k => XS.iloadN X0.here hx rfl (hb hby own_d_jdk_123_method_3_code_4) rfl k) ?_
    refine own_go (T' := s₁) (g' := (mkF m 7 #[rv b, iv (0 : Int32), iv (3 : Int32), iv (3 : Int32), iv (0 : Int32)] [])) (fun t k => XS.istore X0.here hx rfl (hb hby own_d_jdk_123_method_3_code_5) rfl (l' := #[rv b, iv (0 : Int32), iv (3 : Int32), iv (3 : Int32), iv (0 : Int32)]) rfl k) ?_
    refine own_go (T' := s₁) (g' := (mkF m 9 #[rv b, iv (0 : Int32), iv (3 : Int32), iv (3 : Int32), iv (0 : Int32)] [(.int (0 : Int32))])) (fun t k => XS.iload X0.here hx rfl (hb hby own_d_jdk_123_method_3_code_7) rfl k) ?_
    refine own_go (T' := s₁) (g' := (mkF m 10 #[rv b, iv (0 : Int32), iv (3 : Int32), iv (3 : Int32), iv (0 : Int32)] [(.int (3 : Int32)), (.int (0 : Int32))])) (fun t k => XS.iloadN X0.here hx rfl (hb hby own_d_jdk_123_method_3_code_9) rfl k) ?_
    refine own_go (T' := s₁) (g' := (mkF m 13 #[rv b, iv (0 : Int32), iv (3 : Int32), iv (3 : Int32), iv (0 : Int32)] [])) (fun t k => XS.icmpNo X0.here hx rfl (hb hby own_d_jdk_123_method_3_code_10) rfl (tlt (by decide : ((0 : Int32) < (3 : Int32)))).2.1 k) ?_
    refine own_go (T' := s₁) (g' := (mkF m 14 #[rv b, iv (0 : Int32), iv (3 : Int32), iv (3 : Int32), iv (0 : Int32)] [(.ref b)])) (fun t k => XS.aloadN X0.here hx rfl (hb hby own_d_jdk_123_method_3_code_13) rfl rfl k) ?_
    refine own_go (T' := s₁) (g' := (mkF m 16 #[rv b, iv (0 : Int32), iv (3 : Int32), iv (3 : Int32), iv (0 : Int32)] [(.int (0 : Int32)), (.ref b)])) (fun t k => XS.iload X0.here hx rfl (hb hby own_d_jdk_123_method_3_code_14) rfl k) ?_
    obtain ⟨cl302, Ar302, -, Sz302, Nn302, Ha302, -⟩ := id V301
    have hin302 : ¬ ((0 : Int32) < 0 ∨ cl302.slots.size ≤ ((0 : Int32)).toNatClampNeg) := inb_of Sz302 ⟨by decide, by decide⟩
    have hat302 : cl302.slots[((0 : Int32)).toNatClampNeg]? = some (.int c0) := Ha302.at hin302 rfl
    refine own_go (T' := s₁) (g' := (mkF m 17 #[rv b, iv (0 : Int32), iv (3 : Int32), iv (3 : Int32), iv (0 : Int32)] [(.int c0)])) (fun t k => X0.baloadBytes hx (j := (0 : Int32)) (v := (.int c0)) (by rw [e0]; exact Ar302.1) (State.isArrayOf_alike hZ.alike Ar302.2.1) Ar302.2.2 hin302 hat302 (g := (mkF m 16 #[rv b, iv (0 : Int32), iv (3 : Int32), iv (3 : Int32), iv (0 : Int32)] [(.int (0 : Int32)), (.ref b)])) rfl rfl (hb hby own_d_jdk_123_method_3_code_16) _ k) ?_
    refine own_go (T' := s₁) (g' := (mkF m 25 #[rv b, iv (0 : Int32), iv (3 : Int32), iv (3 : Int32), iv (0 : Int32)] [])) (fun t k => XS.ifYes X0.here hx rfl (pc0 := 17) (pc' := 25) rfl (hb hby own_d_jdk_123_method_3_code_17) rfl ((if0 _ _).trans (flt (own_cnn q0 : ¬ (c0 < (0 : Int32)))).2.1) (by decide) (by decide) k) ?_
    refine own_go (T' := s₁) (g' := (mkF m 28 #[rv b, iv (0 : Int32), iv (3 : Int32), iv (3 : Int32), iv (1 : Int32)] [])) (fun t k => XS.iinc X0.here hx rfl (hb hby own_d_jdk_123_method_3_code_25) rfl (l' := #[rv b, iv (0 : Int32), iv (3 : Int32), iv (3 : Int32), iv (1 : Int32)]) rfl k) ?_
    refine own_go (T' := s₁) (g' := (mkF m 7 #[rv b, iv (0 : Int32), iv (3 : Int32), iv (3 : Int32), iv (1 : Int32)] [])) (fun t k => XS.goto X0.here hx rfl (pc0 := 28) (pc' := 7) rfl (hb hby own_d_jdk_123_method_3_code_28) (by decide) (by decide) k) ?_
    refine own_go (T' := s₁) (g' := (mkF m 9 #[rv b, iv (0 : Int32), iv (3 : Int32), iv (3 : Int32), iv (1 : Int32)] [(.int (1 : Int32))])) (fun t k => XS.iload X0.here hx rfl (hb hby own_d_jdk_123_method_3_code_7) rfl k) ?_
    refine own_go (T' := s₁) (g' := (mkF m 10 #[rv b, iv (0 : Int32), iv (3 : Int32), iv (3 : Int32), iv (1 : Int32)] [(.int (3 : Int32)), (.int (1 : Int32))])) (fun t k => XS.iloadN X0.here hx rfl (hb hby own_d_jdk_123_method_3_code_9) rfl k) ?_
    refine own_go (T' := s₁) (g' := (mkF m 13 #[rv b, iv (0 : Int32), iv (3 : Int32), iv (3 : Int32), iv (1 : Int32)] [])) (fun t k => XS.icmpNo X0.here hx rfl (hb hby own_d_jdk_123_method_3_code_10) rfl (tlt (by decide : ((1 : Int32) < (3 : Int32)))).2.1 k) ?_
    refine own_go (T' := s₁) (g' := (mkF m 14 #[rv b, iv (0 : Int32), iv (3 : Int32), iv (3 : Int32), iv (1 : Int32)] [(.ref b)])) (fun t k => XS.aloadN X0.here hx rfl (hb hby own_d_jdk_123_method_3_code_13) rfl rfl k) ?_
    refine own_go (T' := s₁) (g' := (mkF m 16 #[rv b, iv (0 : Int32), iv (3 : Int32), iv (3 : Int32), iv (1 : Int32)] [(.int (1 : Int32)), (.ref b)])) (fun t k => XS.iload X0.here hx rfl (hb hby own_d_jdk_123_method_3_code_14) rfl k) ?_
    obtain ⟨cl303, Ar303, -, Sz303, Nn303, Ha303, -⟩ := id V301
    have hin303 : ¬ ((1 : Int32) < 0 ∨ cl303.slots.size ≤ ((1 : Int32)).toNatClampNeg) := inb_of Sz303 ⟨by decide, by decide⟩
    have hat303 : cl303.slots[((1 : Int32)).toNatClampNeg]? = some (.int c1) := Ha303.at hin303 rfl
    refine own_go (T' := s₁) (g' := (mkF m 17 #[rv b, iv (0 : Int32), iv (3 : Int32), iv (3 : Int32), iv (1 : Int32)] [(.int c1)])) (fun t k => X0.baloadBytes hx (j := (1 : Int32)) (v := (.int c1)) (by rw [e0]; exact Ar303.1) (State.isArrayOf_alike hZ.alike Ar303.2.1) Ar303.2.2 hin303 hat303 (g := (mkF m 16 #[rv b, iv (0 : Int32), iv (3 : Int32), iv (3 : Int32), iv (1 : Int32)] [(.int (1 : Int32)), (.ref b)])) rfl rfl (hb hby own_d_jdk_123_method_3_code_16) _ k) ?_
    refine own_go (T' := s₁) (g' := (mkF m 25 #[rv b, iv (0 : Int32), iv (3 : Int32), iv (3 : Int32), iv (1 : Int32)] [])) (fun t k => XS.ifYes X0.here hx rfl (pc0 := 17) (pc' := 25) rfl (hb hby own_d_jdk_123_method_3_code_17) rfl ((if0 _ _).trans (flt (own_cnn q1 : ¬ (c1 < (0 : Int32)))).2.1) (by decide) (by decide) k) ?_
    refine own_go (T' := s₁) (g' := (mkF m 28 #[rv b, iv (0 : Int32), iv (3 : Int32), iv (3 : Int32), iv (2 : Int32)] [])) (fun t k => XS.iinc X0.here hx rfl (hb hby own_d_jdk_123_method_3_code_25) rfl (l' := #[rv b, iv (0 : Int32), iv (3 : Int32), iv (3 : Int32), iv (2 : Int32)]) rfl k) ?_
    refine own_go (T' := s₁) (g' := (mkF m 7 #[rv b, iv (0 : Int32), iv (3 : Int32), iv (3 : Int32), iv (2 : Int32)] [])) (fun t k => XS.goto X0.here hx rfl (pc0 := 28) (pc' := 7) rfl (hb hby own_d_jdk_123_method_3_code_28) (by decide) (by decide) k) ?_
    refine own_go (T' := s₁) (g' := (mkF m 9 #[rv b, iv (0 : Int32), iv (3 : Int32), iv (3 : Int32), iv (2 : Int32)] [(.int (2 : Int32))])) (fun t k => XS.iload X0.here hx rfl (hb hby own_d_jdk_123_method_3_code_7) rfl k) ?_
    refine own_go (T' := s₁) (g' := (mkF m 10 #[rv b, iv (0 : Int32), iv (3 : Int32), iv (3 : Int32), iv (2 : Int32)] [(.int (3 : Int32)), (.int (2 : Int32))])) (fun t k => XS.iloadN X0.here hx rfl (hb hby own_d_jdk_123_method_3_code_9) rfl k) ?_
    refine own_go (T' := s₁) (g' := (mkF m 13 #[rv b, iv (0 : Int32), iv (3 : Int32), iv (3 : Int32), iv (2 : Int32)] [])) (fun t k => XS.icmpNo X0.here hx rfl (hb hby own_d_jdk_123_method_3_code_10) rfl (tlt (by decide : ((2 : Int32) < (3 : Int32)))).2.1 k) ?_
    refine own_go (T' := s₁) (g' := (mkF m 14 #[rv b, iv (0 : Int32), iv (3 : Int32), iv (3 : Int32), iv (2 : Int32)] [(.ref b)])) (fun t k => XS.aloadN X0.here hx rfl (hb hby own_d_jdk_123_method_3_code_13) rfl rfl k) ?_
    refine own_go (T' := s₁) (g' := (mkF m 16 #[rv b, iv (0 : Int32), iv (3 : Int32), iv (3 : Int32), iv (2 : Int32)] [(.int (2 : Int32)), (.ref b)])) (fun t k => XS.iload X0.here hx rfl (hb hby own_d_jdk_123_method_3_code_14) rfl k) ?_
    obtain ⟨cl304, Ar304, -, Sz304, Nn304, Ha304, -⟩ := id V301
    have hin304 : ¬ ((2 : Int32) < 0 ∨ cl304.slots.size ≤ ((2 : Int32)).toNatClampNeg) := inb_of Sz304 ⟨by decide, by decide⟩
    have hat304 : cl304.slots[((2 : Int32)).toNatClampNeg]? = some (.int c2) := Ha304.at hin304 rfl
    refine own_go (T' := s₁) (g' := (mkF m 17 #[rv b, iv (0 : Int32), iv (3 : Int32), iv (3 : Int32), iv (2 : Int32)] [(.int c2)])) (fun t k => X0.baloadBytes hx (j := (2 : Int32)) (v := (.int c2)) (by rw [e0]; exact Ar304.1) (State.isArrayOf_alike hZ.alike Ar304.2.1) Ar304.2.2 hin304 hat304 (g := (mkF m 16 #[rv b, iv (0 : Int32), iv (3 : Int32), iv (3 : Int32), iv (2 : Int32)] [(.int (2 : Int32)), (.ref b)])) rfl rfl (hb hby own_d_jdk_123_method_3_code_16) _ k) ?_
    refine own_go (T' := s₁) (g' := (mkF m 25 #[rv b, iv (0 : Int32), iv (3 : Int32), iv (3 : Int32), iv (2 : Int32)] [])) (fun t k => XS.ifYes X0.here hx rfl (pc0 := 17) (pc' := 25) rfl (hb hby own_d_jdk_123_method_3_code_17) rfl ((if0 _ _).trans (flt (own_cnn q2 : ¬ (c2 < (0 : Int32)))).2.1) (by decide) (by decide) k) ?_
    refine own_go (T' := s₁) (g' := (mkF m 28 #[rv b, iv (0 : Int32), iv (3 : Int32), iv (3 : Int32), iv (3 : Int32)] [])) (fun t k => XS.iinc X0.here hx rfl (hb hby own_d_jdk_123_method_3_code_25) rfl (l' := #[rv b, iv (0 : Int32), iv (3 : Int32), iv (3 : Int32), iv (3 : Int32)]) rfl k) ?_
    refine own_go (T' := s₁) (g' := (mkF m 7 #[rv b, iv (0 : Int32), iv (3 : Int32), iv (3 : Int32), iv (3 : Int32)] [])) (fun t k => XS.goto X0.here hx rfl (pc0 := 28) (pc' := 7) rfl (hb hby own_d_jdk_123_method_3_code_28) (by decide) (by decide) k) ?_
    refine own_go (T' := s₁) (g' := (mkF m 9 #[rv b, iv (0 : Int32), iv (3 : Int32), iv (3 : Int32), iv (3 : Int32)] [(.int (3 : Int32))])) (fun t k => XS.iload X0.here hx rfl (hb hby own_d_jdk_123_method_3_code_7) rfl k) ?_
    refine own_go (T' := s₁) (g' := (mkF m 10 #[rv b, iv (0 : Int32), iv (3 : Int32), iv (3 : Int32), iv (3 : Int32)] [(.int (3 : Int32)), (.int (3 : Int32))])) (fun t k => XS.iloadN X0.here hx rfl (hb hby own_d_jdk_123_method_3_code_9) rfl k) ?_
    refine own_go (T' := s₁) (g' := (mkF m 31 #[rv b, iv (0 : Int32), iv (3 : Int32), iv (3 : Int32), iv (3 : Int32)] [])) (fun t k => XS.icmpYes X0.here hx rfl (pc0 := 10) (pc' := 31) rfl (hb hby own_d_jdk_123_method_3_code_10) rfl (flt (by decide : ¬ ((3 : Int32) < (3 : Int32)))).2.1 (by decide) (by decide) k) ?_
    refine own_go (T' := s₁) (g' := (mkF m 32 #[rv b, iv (0 : Int32), iv (3 : Int32), iv (3 : Int32), iv (3 : Int32)] [(.int (3 : Int32))])) (fun t k => XS.iloadN X0.here hx rfl (hb hby own_d_jdk_123_method_3_code_31) rfl k) ?_
    exact own_ret X0 hlk hx Bd.returns rfl (Or.inl ⟨rfl, Or.inl rfl, _, rfl⟩) (hb hby own_d_jdk_123_method_3_code_32) ⟨rfl, rfl, e0⟩ (by decide) (by decide)

theorem own_pd10 : parseMethodDescriptor "([BII)I" = some ⟨[(.array .byte), .int, .int], some .int⟩ := by decide +kernel
theorem own_d_jdk_123_method_2_code_0 : decode jdk_123_method_2_code 0 = .ok (.aload_n 0, 1) := by decide +kernel
theorem own_d_jdk_123_method_2_code_1 : decode jdk_123_method_2_code 1 = .ok (.iload_n 1, 1) := by decide +kernel
theorem own_d_jdk_123_method_2_code_2 : decode jdk_123_method_2_code 2 = .ok (.iload_n 2, 1) := by decide +kernel
theorem own_d_jdk_123_method_2_code_3 : decode jdk_123_method_2_code 3 = .ok (.invokestatic 7, 3) := by decide +kernel
theorem own_d_jdk_123_method_2_code_6 : decode jdk_123_method_2_code 6 = .ok (.iload_n 2, 1) := by decide +kernel
theorem own_d_jdk_123_method_2_code_7 : decode jdk_123_method_2_code 7 = .ok (.if_icmp .eq 7, 3) := by decide +kernel
theorem own_d_jdk_123_method_2_code_14 : decode jdk_123_method_2_code 14 = .ok (.iconst 0, 1) := by decide +kernel
theorem own_d_jdk_123_method_2_code_15 : decode jdk_123_method_2_code 15 = .ok (.ireturn, 1) := by decide +kernel
def Q_own_rhn  (h0 : Heap) (n0 : Nat) (v : Option Value) (h : Heap) (L : List Loc) : Prop := v = some (.int 0) ∧ L = [] ∧ h = h0
set_option maxRecDepth 65536 in
set_option maxHeartbeats 40000000 in
theorem own_rhn (l : Launch) (Z : State) (a0 : Array Value) (hw : ∀ d ∈ tables_1, d.before a0 Z = true) (ws : List Jvm.Cond) (b : Addr) (kb : ClassId) (z : Int32) (cs : List Int32) (h0 : Heap) (n0 : Nat) (Z0 : n0 ≤ h0.size) (V_b : Arv Z h0 b kb .byte z (cs.map Value.int) (.int (0 : Int32))) (ok : own_OK z cs) :
    MetFree l (⟨"java/lang/StringCoding", "hasNegatives", "([BII)Z"⟩ : MethodName) (head1 (Jvm.Cond.code (⟨"java/lang/StringCoding", "hasNegatives", "([BII)Z"⟩ : MethodName) jdk_123_method_2_code 3 (some .boolean) :: ws) ({ frames := 1, cells := 0, slots := 0, locals := 16 } : Room)) (fun au Uu => au = #[(.ref b), (.int (0 : Int32)), (.int z)] ∧ Z.Warmed39 Uu.vm ∧ Uu.heap = h0) (fun _ _ _ _ _ => True) (fun _ Uu ou Uw => ∃ vu Lu, ou = .returned vu ∧ Q_own_rhn  h0 n0 vu Uw.heap Lu ∧ FrameEnd Uu ou Uw Lu ({ frames := 1, cells := 0, slots := 0, locals := 16 } : Room).cells ({ frames := 1, cells := 0, slots := 0, locals := 16 } : Room).slots) := by
  refine MetFree.of_bodySF (plainFor_of_name (by first | (simp [plainName, overriddenIn]; done) | decide +kernel)) hisR ?_
  intro p e s m args below meth c s₁ Bd hml0 hP hK
  obtain ⟨rfl, hZ, hh⟩ := hP
  have hx := Bd.exec
  have hby := Bd.bytes
  have hlk := Bd.notSynchronized
  have hml : c.maxLocals = 3 := hml0
  have hown : s.vm.findClass "java/lang/StringCoding" = some m.cls := findClass_of_methodNamed Bd.named
  have hnm := (name_of_methodNamed Bd.named Bd.method).1
  have X0 : Stand p l e ({ frames := 1, cells := 0, slots := 0, locals := 16 } : Room) s m #[(.ref b), (.int (0 : Int32)), (.int z)] below meth c s₁ [] 0 0 := Stand.of_body Bd
  have e0 : s₁.heap = h0 := by rw [← hh, Bd.state]; rfl
  have N0 := Fr.nil n0
  show own_Ends p e below s₁ (entryFrame m #[(.ref b), (.int (0 : Int32)), (.int z)] 3) (fun ou Uw => ∃ vu Lu, ou = .returned vu ∧ Q_own_rhn  h0 n0 vu Uw.heap Lu ∧ FrameEnd s ou Uw Lu ({ frames := 1, cells := 0, slots := 0, locals := 16 } : Room).cells ({ frames := 1, cells := 0, slots := 0, locals := 16 } : Room).slots)
  refine own_start (g' := (mkF m 0 #[rv b, iv (0 : Int32), iv z] [])) (by first | (simp [entryFrame, mkF, argsToLocals, Value.category, iv, rv]; done) | rfl) ?_
  refine own_go (T' := s₁) (g' := (mkF m 1 #[rv b, iv (0 : Int32), iv z] [(.ref b)])) (fun t k => XS.aloadN X0.here hx rfl (hb hby own_d_jdk_123_method_2_code_0) rfl rfl k) ?_
  refine own_go (T' := s₁) (g' := (mkF m 2 #[rv b, iv (0 : Int32), iv z] [(.int (0 : Int32)), (.ref b)])) (fun t k => XS.iloadN X0.here hx rfl (hb hby own_d_jdk_123_method_2_code_1) rfl k) ?_
  refine own_go (T' := s₁) (g' := (mkF m 3 #[rv b, iv (0 : Int32), iv z] [(.int z), (.int (0 : Int32)), (.ref b)])) (fun t k => XS.iloadN X0.here hx rfl (hb hby own_d_jdk_123_method_2_code_2) rfl k) ?_
  obtain ⟨_, _, ⟨T305, L305, k305, n305⟩, -, X305, ⟨Lc305, hQ305, l305, y305, z305⟩, st305⟩ := Jvm.LawKit.callS X0 hx (y := (⟨"java/lang/StringCoding", "countPositives", "([BII)I"⟩ : MethodName)) hown (mvT hZ (hw _ (List.mem_of_getElem? (i := 108) rfl))) (mvT hZ (hw _ (List.mem_of_getElem? (i := 109) rfl))) (mvT hZ (hw _ (List.mem_of_getElem? (i := 106) rfl))) (mvT hZ (hw _ (List.mem_of_getElem? (i := 110) rfl))) (by decide) (backOf (W := 0) (own_rcp l Z a0 hw [] b kb z cs h0 n0 Z0 V_b ok) hZ (hw _ (List.mem_of_getElem? (i := 110) rfl)) (hw _ (List.mem_of_getElem? (i := 106) rfl)) (by decide) (by decide)) (g := (mkF m 3 #[rv b, iv (0 : Int32), iv z] [(.int z), (.int (0 : Int32)), (.ref b)])) rfl (by rw [hml]; rfl) (argsL := [(.ref b), (.int (0 : Int32)), (.int z)]) (rest := []) (lenOf own_pd10 rfl) rfl (by show 2 * 0 + _ ≤ _; exact Nat.le_of_eq rfl) (hb hby own_d_jdk_123_method_2_code_3) (fun _ _ => ⟨rfl, e0, (by decide : 0 + 0 ≤ _), (by decide : 0 + 0 ≤ _)⟩)
  dsimp only [Pt.U, Pt.locs, Pt.cells, Pt.slots] at X305 l305 y305 z305 st305 hQ305
  subst l305 y305 z305
  obtain ⟨rfl, rfl, e305⟩ := hQ305
  have E305q : T305.heap = h0 := e305
  have N305 := Fr.app N0 (Fr.nil n0)
  refine own_go (T' := T305) (g' := (mkF m 6 #[rv b, iv (0 : Int32), iv z] [(.int z)])) (st305) ?_
  refine own_go (T' := T305) (g' := (mkF m 7 #[rv b, iv (0 : Int32), iv z] [(.int z), (.int z)])) (fun t k => XS.iloadN X305.here hx rfl (hb hby own_d_jdk_123_method_2_code_6) rfl k) ?_
  refine own_go (T' := T305) (g' := (mkF m 14 #[rv b, iv (0 : Int32), iv z] [])) (fun t k => XS.icmpYes X305.here hx rfl (pc0 := 7) (pc' := 14) rfl (hb hby own_d_jdk_123_method_2_code_7) rfl (teq (rfl : z = z)).1 (by decide) (by decide) k) ?_
  refine own_go (T' := T305) (g' := (mkF m 15 #[rv b, iv (0 : Int32), iv z] [(.int (0 : Int32))])) (fun t k => XS.iconst X305.here hx rfl (hb hby own_d_jdk_123_method_2_code_14) k) ?_
  exact own_ret X305 hlk hx Bd.returns rfl (Or.inl ⟨rfl, Or.inr (Or.inl rfl), _, rfl⟩) (hb hby own_d_jdk_123_method_2_code_15) ⟨rfl, rfl, E305q⟩ (by decide) (by decide)

theorem own_pd11 : parseMethodDescriptor "([BII)Z" = some ⟨[(.array .byte), .int, .int], some .boolean⟩ := by decide +kernel
theorem own_d_jdk_42_method_46_code_0 : decode jdk_42_method_46_code 0 = .ok (.iload_n 0, 1) := by decide +kernel
theorem own_d_jdk_42_method_46_code_1 : decode jdk_42_method_46_code 1 = .ok (.iconst 1, 1) := by decide +kernel
theorem own_d_jdk_42_method_46_code_2 : decode jdk_42_method_46_code 2 = .ok (.if_icmp .ne 9, 3) := by decide +kernel
theorem own_d_jdk_42_method_46_code_11 : decode jdk_42_method_46_code 11 = .ok (.aload_n 1, 1) := by decide +kernel
theorem own_d_jdk_42_method_46_code_12 : decode jdk_42_method_46_code 12 = .ok (.iconst 0, 1) := by decide +kernel
theorem own_d_jdk_42_method_46_code_13 : decode jdk_42_method_46_code 13 = .ok (.aload_n 1, 1) := by decide +kernel
theorem own_d_jdk_42_method_46_code_14 : decode jdk_42_method_46_code 14 = .ok (.arraylength, 1) := by decide +kernel
theorem own_d_jdk_42_method_46_code_15 : decode jdk_42_method_46_code 15 = .ok (.invokestatic 128, 3) := by decide +kernel
theorem own_d_jdk_42_method_46_code_18 : decode jdk_42_method_46_code 18 = .ok (.ifCond .ne 11, 3) := by decide +kernel
theorem own_d_jdk_42_method_46_code_21 : decode jdk_42_method_46_code 21 = .ok (.aload_n 1, 1) := by decide +kernel
theorem own_d_jdk_42_method_46_code_22 : decode jdk_42_method_46_code 22 = .ok (.invokevirtual 279, 3) := by decide +kernel
theorem own_d_jdk_42_method_46_code_25 : decode jdk_42_method_46_code 25 = .ok (.checkcast 280, 3) := by decide +kernel
theorem own_d_jdk_42_method_46_code_28 : decode jdk_42_method_46_code 28 = .ok (.areturn, 1) := by decide +kernel
def Q_own_re8 (Z : State) (z : Int32) (cs : List Int32) (h0 : Heap) (n0 : Nat) (v : Option Value) (h : Heap) (L : List Loc) : Prop := ∃ (b : Addr) (kb : ClassId), v = some (.ref b) ∧ Fr n0 L ∧ h0.size ≤ b ∧ Keep h0 h [] ∧ Arv Z h b kb .byte z (cs.map Value.int) (.int (0 : Int32))
set_option maxRecDepth 65536 in
set_option maxHeartbeats 40000000 in
theorem own_re8 (l : Launch) (Z : State) (a0 : Array Value) (hw : ∀ d ∈ tables_1, d.before a0 Z = true) (ws : List Jvm.Cond) (b : Addr) (kb : ClassId) (z : Int32) (cs : List Int32) (h0 : Heap) (n0 : Nat) (Z0 : n0 ≤ h0.size) (V_b : Arv Z h0 b kb .byte z (cs.map Value.int) (.int (0 : Int32))) (E_b : Exa Z h0 b "[B") (ok : own_OK z cs) :
    MetFree l (⟨"java/lang/String", "encodeUTF8", "(B[BZ)[B"⟩ : MethodName) (head1 (Jvm.Cond.code (⟨"java/lang/String", "encodeUTF8", "(B[BZ)[B"⟩ : MethodName) jdk_42_method_46_code 9 (some (.array .byte)) :: ws) ({ frames := 2, cells := 1, slots := 3, locals := 30 } : Room)) (fun au Uu => au = #[(.int (0 : Int32)), (.ref b), (.int (1 : Int32))] ∧ Z.Warmed39 Uu.vm ∧ Uu.heap = h0) (fun _ _ _ _ _ => True) (fun _ Uu ou Uw => ∃ vu Lu, ou = .returned vu ∧ Q_own_re8 Z z cs h0 n0 vu Uw.heap Lu ∧ FrameEnd Uu ou Uw Lu ({ frames := 2, cells := 1, slots := 3, locals := 30 } : Room).cells ({ frames := 2, cells := 1, slots := 3, locals := 30 } : Room).slots) := by
  refine MetFree.of_bodySF (plainFor_of_name (by first | (simp [plainName, overriddenIn]; done) | decide +kernel)) hisR ?_
  intro p e s m args below meth c s₁ Bd hml0 hP hK
  obtain ⟨rfl, hZ, hh⟩ := hP
  have hx := Bd.exec
  have hby := Bd.bytes
  have hlk := Bd.notSynchronized
  have hml : c.maxLocals = 9 := hml0
  have hown : s.vm.findClass "java/lang/String" = some m.cls := findClass_of_methodNamed Bd.named
  have hnm := (name_of_methodNamed Bd.named Bd.method).1
  have X0 : Stand p l e ({ frames := 2, cells := 1, slots := 3, locals := 30 } : Room) s m #[(.int (0 : Int32)), (.ref b), (.int (1 : Int32))] below meth c s₁ [] 0 0 := Stand.of_body Bd
  have e0 : s₁.heap = h0 := by rw [← hh, Bd.state]; rfl
  have N0 := Fr.nil n0
  show own_Ends p e below s₁ (entryFrame m #[(.int (0 : Int32)), (.ref b), (.int (1 : Int32))] 9) (fun ou Uw => ∃ vu Lu, ou = .returned vu ∧ Q_own_re8 Z z cs h0 n0 vu Uw.heap Lu ∧ FrameEnd s ou Uw Lu ({ frames := 2, cells := 1, slots := 3, locals := 30 } : Room).cells ({ frames := 2, cells := 1, slots := 3, locals := 30 } : Room).slots)
  refine own_start (g' := (mkF m 0 #[iv (0 : Int32), rv b, iv (1 : Int32), .unset, .unset, .unset, .unset, .unset, .unset] [])) (by first | (simp [entryFrame, mkF, argsToLocals, Value.category, iv, rv]; done) | rfl) ?_
  refine own_go (T' := s₁) (g' := (mkF m 1 #[iv (0 : Int32), rv b, iv (1 : Int32), .unset, .unset, .unset, .unset, .unset, .unset] [(.int (0 : Int32))])) (fun t k => XS.iloadN X0.here hx rfl (hb hby own_d_jdk_42_method_46_code_0) rfl k) ?_
  refine own_go (T' := s₁) (g' := (mkF m 2 #[iv (0 : Int32), rv b, iv (1 : Int32), .unset, .unset, .unset, .unset, .unset, .unset] [(.int (1 : Int32)), (.int (0 : Int32))])) (fun t k => XS.iconst X0.here hx rfl (hb hby own_d_jdk_42_method_46_code_1) k) ?_
  refine own_go (T' := s₁) (g' := (mkF m 11 #[iv (0 : Int32), rv b, iv (1 : Int32), .unset, .unset, .unset, .unset, .unset, .unset] [])) (fun t k => XS.icmpYes X0.here hx rfl (pc0 := 2) (pc' := 11) rfl (hb hby own_d_jdk_42_method_46_code_2) rfl (feq (by decide : ¬ ((0 : Int32) = (1 : Int32)))).2 (by decide) (by decide) k) ?_
  refine own_go (T' := s₁) (g' := (mkF m 12 #[iv (0 : Int32), rv b, iv (1 : Int32), .unset, .unset, .unset, .unset, .unset, .unset] [(.ref b)])) (fun t k => XS.aloadN X0.here hx rfl (hb hby own_d_jdk_42_method_46_code_11) rfl rfl k) ?_
  refine own_go (T' := s₁) (g' := (mkF m 13 #[iv (0 : Int32), rv b, iv (1 : Int32), .unset, .unset, .unset, .unset, .unset, .unset] [(.int (0 : Int32)), (.ref b)])) (fun t k => XS.iconst X0.here hx rfl (hb hby own_d_jdk_42_method_46_code_12) k) ?_
  refine own_go (T' := s₁) (g' := (mkF m 14 #[iv (0 : Int32), rv b, iv (1 : Int32), .unset, .unset, .unset, .unset, .unset, .unset] [(.ref b), (.int (0 : Int32)), (.ref b)])) (fun t k => XS.aloadN X0.here hx rfl (hb hby own_d_jdk_42_method_46_code_13) rfl rfl k) ?_
  obtain ⟨cl306, Ar306, -, Sz306, Nn306, -, -⟩ := id V_b
  refine own_go (T' := s₁) (g' := (mkF m 15 #[iv (0 : Int32), rv b, iv (1 : Int32), .unset, .unset, .unset, .unset, .unset, .unset] [(.int z), (.int (0 : Int32)), (.ref b)])) (fun t k => X0.arraylength hx (by rw [e0]; exact Ar306.1) (State.isArrayOf_alike hZ.alike Ar306.2.1) (g := (mkF m 14 #[iv (0 : Int32), rv b, iv (1 : Int32), .unset, .unset, .unset, .unset, .unset, .unset] [(.ref b), (.int (0 : Int32)), (.ref b)])) rfl rfl (hb hby own_d_jdk_42_method_46_code_14) _ (by rw [len_of Sz306 Nn306]; exact k)) ?_
  obtain ⟨_, _, ⟨T307, L307, k307, n307⟩, -, X307, ⟨Lc307, hQ307, l307, y307, z307⟩, st307⟩ := Jvm.LawKit.callS X0 hx (y := (⟨"java/lang/StringCoding", "hasNegatives", "([BII)Z"⟩ : MethodName)) hown (mvT hZ (hw _ (List.mem_of_getElem? (i := 104) rfl))) (mvT hZ (hw _ (List.mem_of_getElem? (i := 105) rfl))) (mvT hZ (hw _ (List.mem_of_getElem? (i := 106) rfl))) (mvT hZ (hw _ (List.mem_of_getElem? (i := 107) rfl))) (by decide) (backOf (W := 0) (own_rhn l Z a0 hw [] b kb z cs h0 n0 Z0 V_b ok) hZ (hw _ (List.mem_of_getElem? (i := 107) rfl)) (hw _ (List.mem_of_getElem? (i := 106) rfl)) (by decide) (by decide)) (g := (mkF m 15 #[iv (0 : Int32), rv b, iv (1 : Int32), .unset, .unset, .unset, .unset, .unset, .unset] [(.int z), (.int (0 : Int32)), (.ref b)])) rfl (by rw [hml]; rfl) (argsL := [(.ref b), (.int (0 : Int32)), (.int z)]) (rest := []) (lenOf own_pd11 rfl) rfl (by show 2 * 0 + _ ≤ _; exact Nat.le_of_eq rfl) (hb hby own_d_jdk_42_method_46_code_15) (fun _ _ => ⟨rfl, e0, (by decide : 0 + 0 ≤ _), (by decide : 0 + 0 ≤ _)⟩)
  dsimp only [Pt.U, Pt.locs, Pt.cells, Pt.slots] at X307 l307 y307 z307 st307 hQ307
  subst l307 y307 z307
  obtain ⟨rfl, rfl, e307⟩ := hQ307
  have E307q : T307.heap = h0 := e307
  have N307 := Fr.app N0 (Fr.nil n0)
  refine own_go (T' := T307) (g' := (mkF m 18 #[iv (0 : Int32), rv b, iv (1 : Int32), .unset, .unset, .unset, .unset, .unset, .unset] [(.int (0 : Int32))])) (st307) ?_
  refine own_go (T' := T307) (g' := (mkF m 21 #[iv (0 : Int32), rv b, iv (1 : Int32), .unset, .unset, .unset, .unset, .unset, .unset] [])) (fun t k => XS.ifNo X307.here hx rfl (hb hby own_d_jdk_42_method_46_code_18) rfl ((if0 _ _).trans (teq (by decide : ((0 : Int32) = (0 : Int32)))).2) k) ?_
  refine own_go (T' := T307) (g' := (mkF m 22 #[iv (0 : Int32), rv b, iv (1 : Int32), .unset, .unset, .unset, .unset, .unset, .unset] [(.ref b)])) (fun t k => XS.aloadN X307.here hx rfl (hb hby own_d_jdk_42_method_46_code_21) rfl rfl k) ?_
  obtain ⟨T308, h308, X308, e308, E308, A308, B308, st308⟩ := cloneH X307 hx hZ hown (hw _ (List.mem_of_getElem? (i := 111) rfl)) (hw _ (List.mem_of_getElem? (i := 112) rfl)) (hw _ (List.mem_of_getElem? (i := 116) rfl)) (hw _ (List.mem_of_getElem? (i := 114) rfl)) (hw _ (List.mem_of_getElem? (i := 115) rfl)) (hw _ (List.mem_of_getElem? (i := 117) rfl)) E307q V_b.arh E_b (g := (mkF m 22 #[iv (0 : Int32), rv b, iv (1 : Int32), .unset, .unset, .unset, .unset, .unset, .unset] [(.ref b)])) rfl (by rw [hml]; rfl) rfl (hb hby own_d_jdk_42_method_46_code_22) (by decide) (W := 0) (cap := 3) (by show 2 * 0 + _ ≤ _; exact Nat.le_of_eq rfl) (by decide) (own_okcap ok) (by decide) (by decide)
  obtain ⟨b308, g308⟩ : ∃ z, z = h0.size := ⟨_, rfl⟩
  rw [← g308] at A308 B308 st308
  have gn308 : n0 ≤ b308 := Nat.le_trans Z0 (Nat.le_of_eq g308.symm)
  have hz308 : n0 ≤ h308.size := Nat.le_trans Z0 E308.1
  have o308 : h0.size ≤ b308 := Nat.le_trans (Keep.refl h0 []).1 (Nat.le_of_eq g308.symm)
  have K308 := (Keep.refl h0 []).ext E308
  have c309 := V_b.ext E308
  have ne310 : b ≠ b308 := Nat.ne_of_lt (Nat.lt_of_lt_of_le V_b.lt (Nat.le_of_eq g308.symm))
  have c311 := E_b.ext E308
  have V308 : Arv Z h308 b308 kb .byte z (cs.map Value.int) (.int (0 : Int32)) := A308
  refine own_go (T' := T308) (g' := (mkF m 25 #[iv (0 : Int32), rv b, iv (1 : Int32), .unset, .unset, .unset, .unset, .unset, .unset] [(.ref b308)])) (st308) ?_
  obtain ⟨T312, X312, e312, st312⟩ := castY X308 hx hZ hown (hw _ (List.mem_of_getElem? (i := 118) rfl)) e308 (Ins.self B308) (g := (mkF m 25 #[iv (0 : Int32), rv b, iv (1 : Int32), .unset, .unset, .unset, .unset, .unset, .unset] [(.ref b308)])) rfl rfl (hb hby own_d_jdk_42_method_46_code_25)
  refine own_go (T' := T312) (g' := (mkF m 28 #[iv (0 : Int32), rv b, iv (1 : Int32), .unset, .unset, .unset, .unset, .unset, .unset] [(.ref b308)])) (st312) ?_
  exact own_ret X312 hlk hx Bd.returns rfl (Or.inr (Or.inr (Or.inr (Or.inr ⟨rfl, rfl, rfl⟩)))) (hb hby own_d_jdk_42_method_46_code_28) (by rw [e312]; exact ⟨b308, _, rfl, N307, o308, K308, V308⟩) (by decide) (by decide)

theorem own_pd12 : parseMethodDescriptor "(B[BZ)[B" = some ⟨[.byte, (.array .byte), .boolean], some (.array .byte)⟩ := by decide +kernel
theorem own_d_jdk_42_method_18_code_0 : decode jdk_42_method_18_code 0 = .ok (.aload_n 0, 1) := by decide +kernel
theorem own_d_jdk_42_method_18_code_1 : decode jdk_42_method_18_code 1 = .ok (.getstatic 86, 3) := by decide +kernel
theorem own_d_jdk_42_method_18_code_4 : decode jdk_42_method_18_code 4 = .ok (.if_acmp .ne 10, 3) := by decide +kernel
theorem own_d_jdk_42_method_18_code_7 : decode jdk_42_method_18_code 7 = .ok (.iload_n 1, 1) := by decide +kernel
theorem own_d_jdk_42_method_18_code_8 : decode jdk_42_method_18_code 8 = .ok (.aload_n 2, 1) := by decide +kernel
theorem own_d_jdk_42_method_18_code_9 : decode jdk_42_method_18_code 9 = .ok (.iconst 1, 1) := by decide +kernel
theorem own_d_jdk_42_method_18_code_10 : decode jdk_42_method_18_code 10 = .ok (.invokestatic 252, 3) := by decide +kernel
theorem own_d_jdk_42_method_18_code_13 : decode jdk_42_method_18_code 13 = .ok (.areturn, 1) := by decide +kernel
def Q_own_ren (Z : State) (z : Int32) (cs : List Int32) (h0 : Heap) (n0 : Nat) (v : Option Value) (h : Heap) (L : List Loc) : Prop := ∃ (b : Addr) (kb : ClassId), v = some (.ref b) ∧ Fr n0 L ∧ h0.size ≤ b ∧ Keep h0 h [] ∧ Arv Z h b kb .byte z (cs.map Value.int) (.int (0 : Int32))
set_option maxRecDepth 65536 in
set_option maxHeartbeats 40000000 in
theorem own_ren (l : Launch) (Z : State) (a0 : Array Value) (hw : ∀ d ∈ tables_1, d.before a0 Z = true) (ws : List Jvm.Cond) (b u8 : Addr) (kb : ClassId) (z : Int32) (cs : List Int32) (h0 : Heap) (n0 : Nat) (Z0 : n0 ≤ h0.size) (V_b : Arv Z h0 b kb .byte z (cs.map Value.int) (.int (0 : Int32))) (E_b : Exa Z h0 b "[B") (ok : own_OK z cs) (S_u8 : Sta Z h0 "java/nio/charset/StandardCharsets" "UTF_8" "Ljava/nio/charset/Charset;" (.ref u8)) (S_in : Sta Z h0 "sun/nio/cs/UTF_8" "INSTANCE" "Lsun/nio/cs/UTF_8;" (.ref u8)) :
    MetFree l (⟨"java/lang/String", "encode", "(Ljava/nio/charset/Charset;B[B)[B"⟩ : MethodName) (head1 (Jvm.Cond.code (⟨"java/lang/String", "encode", "(Ljava/nio/charset/Charset;B[B)[B"⟩ : MethodName) jdk_42_method_18_code 3 (some (.array .byte)) :: ws) ({ frames := 3, cells := 1, slots := 3, locals := 50 } : Room)) (fun au Uu => au = #[(.ref u8), (.int (0 : Int32)), (.ref b)] ∧ Z.Warmed39 Uu.vm ∧ Uu.heap = h0) (fun _ _ _ _ _ => True) (fun _ Uu ou Uw => ∃ vu Lu, ou = .returned vu ∧ Q_own_ren Z z cs h0 n0 vu Uw.heap Lu ∧ FrameEnd Uu ou Uw Lu ({ frames := 3, cells := 1, slots := 3, locals := 50 } : Room).cells ({ frames := 3, cells := 1, slots := 3, locals := 50 } : Room).slots) := by
  refine MetFree.of_bodySF (plainFor_of_name (by first | (simp [plainName, overriddenIn]; done) | decide +kernel)) hisR ?_
  intro p e s m args below meth c s₁ Bd hml0 hP hK
  obtain ⟨rfl, hZ, hh⟩ := hP
  have hx := Bd.exec
  have hby := Bd.bytes
  have hlk := Bd.notSynchronized
  have hml : c.maxLocals = 3 := hml0
  have hown : s.vm.findClass "java/lang/String" = some m.cls := findClass_of_methodNamed Bd.named
  have hnm := (name_of_methodNamed Bd.named Bd.method).1
  have X0 : Stand p l e ({ frames := 3, cells := 1, slots := 3, locals := 50 } : Room) s m #[(.ref u8), (.int (0 : Int32)), (.ref b)] below meth c s₁ [] 0 0 := Stand.of_body Bd
  have e0 : s₁.heap = h0 := by rw [← hh, Bd.state]; rfl
  have N0 := Fr.nil n0
  show own_Ends p e below s₁ (entryFrame m #[(.ref u8), (.int (0 : Int32)), (.ref b)] 3) (fun ou Uw => ∃ vu Lu, ou = .returned vu ∧ Q_own_ren Z z cs h0 n0 vu Uw.heap Lu ∧ FrameEnd s ou Uw Lu ({ frames := 3, cells := 1, slots := 3, locals := 50 } : Room).cells ({ frames := 3, cells := 1, slots := 3, locals := 50 } : Room).slots)
  refine own_start (g' := (mkF m 0 #[rv u8, iv (0 : Int32), rv b] [])) (by first | (simp [entryFrame, mkF, argsToLocals, Value.category, iv, rv]; done) | rfl) ?_
  refine own_go (T' := s₁) (g' := (mkF m 1 #[rv u8, iv (0 : Int32), rv b] [(.ref u8)])) (fun t k => XS.aloadN X0.here hx rfl (hb hby own_d_jdk_42_method_18_code_0) rfl rfl k) ?_
  obtain ⟨T313, X313, e313, st313⟩ := getS2 X0 hx hZ hown (host := "") (Or.inl (hw _ (List.mem_of_getElem? (i := 99) rfl))) Via.refl e0 S_in (g := (mkF m 1 #[rv u8, iv (0 : Int32), rv b] [(.ref u8)])) rfl (hb hby own_d_jdk_42_method_18_code_1)
  refine own_go (T' := T313) (g' := (mkF m 4 #[rv u8, iv (0 : Int32), rv b] [(.ref u8), (.ref u8)])) (st313) ?_
  refine own_go (T' := T313) (g' := (mkF m 7 #[rv u8, iv (0 : Int32), rv b] [])) (fun t k => Jvm.RoadKit.acmp (g := (mkF m 4 #[rv u8, iv (0 : Int32), rv b] [(.ref u8), (.ref u8)])) X313 hx rfl (x := (.ref u8)) (y := (.ref u8)) rfl rfl (pc0 := 4) (pc' := 7) (same := true) rfl (hb hby own_d_jdk_42_method_18_code_4) rfl (decide_eq_true rfl) (by decide) (by decide) k) ?_
  refine own_go (T' := T313) (g' := (mkF m 8 #[rv u8, iv (0 : Int32), rv b] [(.int (0 : Int32))])) (fun t k => XS.iloadN X313.here hx rfl (hb hby own_d_jdk_42_method_18_code_7) rfl k) ?_
  refine own_go (T' := T313) (g' := (mkF m 9 #[rv u8, iv (0 : Int32), rv b] [(.ref b), (.int (0 : Int32))])) (fun t k => XS.aloadN X313.here hx rfl (hb hby own_d_jdk_42_method_18_code_8) rfl rfl k) ?_
  refine own_go (T' := T313) (g' := (mkF m 10 #[rv u8, iv (0 : Int32), rv b] [(.int (1 : Int32)), (.ref b), (.int (0 : Int32))])) (fun t k => XS.iconst X313.here hx rfl (hb hby own_d_jdk_42_method_18_code_9) k) ?_
  obtain ⟨_, _, ⟨T314, L314, k314, n314⟩, -, X314, ⟨Lc314, hQ314, l314, y314, z314⟩, st314⟩ := Jvm.LawKit.callS X313 hx (y := (⟨"java/lang/String", "encodeUTF8", "(B[BZ)[B"⟩ : MethodName)) hown (mvT hZ (hw _ (List.mem_of_getElem? (i := 101) rfl))) (mvT hZ (hw _ (List.mem_of_getElem? (i := 102) rfl))) (mvT hZ (hw _ (List.mem_of_getElem? (i := 10) rfl))) (mvT hZ (hw _ (List.mem_of_getElem? (i := 103) rfl))) (by decide) (backOf (W := 0) (own_re8 l Z a0 hw [] b kb z cs h0 n0 Z0 V_b E_b ok) hZ (hw _ (List.mem_of_getElem? (i := 103) rfl)) (hw _ (List.mem_of_getElem? (i := 10) rfl)) (by decide) (by decide)) (g := (mkF m 10 #[rv u8, iv (0 : Int32), rv b] [(.int (1 : Int32)), (.ref b), (.int (0 : Int32))])) rfl (by rw [hml]; rfl) (argsL := [(.int (0 : Int32)), (.ref b), (.int (1 : Int32))]) (rest := []) (lenOf own_pd12 rfl) rfl (by show 2 * 0 + _ ≤ _; exact Nat.le_of_eq rfl) (hb hby own_d_jdk_42_method_18_code_10) (fun _ _ => ⟨rfl, e313, (by decide : 0 + 1 ≤ _), (by decide : 0 + 3 ≤ _)⟩)
  dsimp only [Pt.U, Pt.locs, Pt.cells, Pt.slots] at X314 l314 y314 z314 st314 hQ314
  subst l314 y314 z314
  obtain ⟨b_314, k_314, rfl, N314q, ob_314, K_314, V_314⟩ := hQ314
  have N314 := Fr.app N0 N314q
  have nq315 : b ≠ b_314 := Nat.ne_of_lt (Nat.lt_of_lt_of_le V_b.lt ob_314)
  have oo_314 : h0.size ≤ b_314 := Nat.le_trans (Keep.refl h0 []).1 ob_314
  have c316 := V_b.keep K_314 nin0
  have c317 := E_b.keep K_314
  have c318 := own_sta_keep S_u8 K_314 own_ns0
  have c319 := own_sta_keep S_in K_314 own_ns0
  have hz314 : n0 ≤ T314.heap.size := Nat.le_trans Z0 K_314.1
  have K314 := Keep.trans (Keep.refl h0 []) K_314 all0
  refine own_go (T' := T314) (g' := (mkF m 13 #[rv u8, iv (0 : Int32), rv b] [(.ref b_314)])) (st314) ?_
  exact own_ret X314 hlk hx Bd.returns rfl (Or.inr (Or.inr (Or.inr (Or.inr ⟨rfl, rfl, rfl⟩)))) (hb hby own_d_jdk_42_method_18_code_13) ⟨b_314, _, rfl, N314, oo_314, K314, V_314⟩ (by decide) (by decide)

theorem own_pd13 : parseMethodDescriptor "(Ljava/nio/charset/Charset;B[B)[B" = some ⟨[(.object "java/nio/charset/Charset"), .byte, (.array .byte)], some (.array .byte)⟩ := by decide +kernel
theorem own_d_jdk_42_method_64_code_0 : decode jdk_42_method_64_code 0 = .ok (.aload_n 1, 1) := by decide +kernel
theorem own_d_jdk_42_method_64_code_1 : decode jdk_42_method_64_code 1 = .ok (.ifnonnull 11, 3) := by decide +kernel
theorem own_d_jdk_42_method_64_code_12 : decode jdk_42_method_64_code 12 = .ok (.aload_n 1, 1) := by decide +kernel
theorem own_d_jdk_42_method_64_code_13 : decode jdk_42_method_64_code 13 = .ok (.aload_n 0, 1) := by decide +kernel
theorem own_d_jdk_42_method_64_code_14 : decode jdk_42_method_64_code 14 = .ok (.invokevirtual 335, 3) := by decide +kernel
theorem own_d_jdk_42_method_64_code_17 : decode jdk_42_method_64_code 17 = .ok (.aload_n 0, 1) := by decide +kernel
theorem own_d_jdk_42_method_64_code_18 : decode jdk_42_method_64_code 18 = .ok (.getfield 9, 3) := by decide +kernel
theorem own_d_jdk_42_method_64_code_21 : decode jdk_42_method_64_code 21 = .ok (.invokestatic 535, 3) := by decide +kernel
theorem own_d_jdk_42_method_64_code_24 : decode jdk_42_method_64_code 24 = .ok (.areturn, 1) := by decide +kernel
def Q_own_rgb (Z : State) (z : Int32) (cs : List Int32) (h0 : Heap) (n0 : Nat) (v : Option Value) (h : Heap) (L : List Loc) : Prop := ∃ (b : Addr) (kb : ClassId), v = some (.ref b) ∧ Fr n0 L ∧ h0.size ≤ b ∧ Keep h0 h [] ∧ Arv Z h b kb .byte z (cs.map Value.int) (.int (0 : Int32))
set_option maxRecDepth 65536 in
set_option maxHeartbeats 40000000 in
theorem own_rgb (l : Launch) (Z : State) (a0 : Array Value) (hw : ∀ d ∈ tables_1, d.before a0 Z = true) (ws : List Jvm.Cond) (s_ b u8 : Addr) (kb : ClassId) (z cp : Int32) (cs : List Int32) (h0 : Heap) (n0 : Nat) (Z0 : n0 ≤ h0.size) (E_s : Exa Z h0 s_ "java/lang/String") (F_c : Fld Z h0 s_ "java/lang/String" "coder" "B" (.int 0)) (F_v : Fld Z h0 s_ "java/lang/String" "value" "[B" (.ref b)) (V_b : Arv Z h0 b kb .byte z (cs.map Value.int) (.int (0 : Int32))) (E_b : Exa Z h0 b "[B") (ok : own_OK z cs) (S_cp : Sta Z h0 "java/lang/String" "COMPACT_STRINGS" "Z" (.int cp)) (hcp : ¬ cp = 0) (S_u8 : Sta Z h0 "java/nio/charset/StandardCharsets" "UTF_8" "Ljava/nio/charset/Charset;" (.ref u8)) (S_in : Sta Z h0 "sun/nio/cs/UTF_8" "INSTANCE" "Lsun/nio/cs/UTF_8;" (.ref u8)) :
    MetFree l (⟨"java/lang/String", "getBytes", "(Ljava/nio/charset/Charset;)[B"⟩ : MethodName) (head1 (Jvm.Cond.code (⟨"java/lang/String", "getBytes", "(Ljava/nio/charset/Charset;)[B"⟩ : MethodName) jdk_42_method_64_code 2 (some (.array .byte)) :: ws) ({ frames := 4, cells := 1, slots := 3, locals := 64 } : Room)) (fun au Uu => au = #[(.ref s_), (.ref u8)] ∧ Z.Warmed39 Uu.vm ∧ Uu.heap = h0) (fun _ _ _ _ _ => True) (fun _ Uu ou Uw => ∃ vu Lu, ou = .returned vu ∧ Q_own_rgb Z z cs h0 n0 vu Uw.heap Lu ∧ FrameEnd Uu ou Uw Lu ({ frames := 4, cells := 1, slots := 3, locals := 64 } : Room).cells ({ frames := 4, cells := 1, slots := 3, locals := 64 } : Room).slots) := by
  refine MetFree.of_bodySF (plainFor_of_name (by first | (simp [plainName, overriddenIn]; done) | decide +kernel)) hisR ?_
  intro p e s m args below meth c s₁ Bd hml0 hP hK
  obtain ⟨rfl, hZ, hh⟩ := hP
  have hx := Bd.exec
  have hby := Bd.bytes
  have hlk := Bd.notSynchronized
  have hml : c.maxLocals = 2 := hml0
  have hown : s.vm.findClass "java/lang/String" = some m.cls := findClass_of_methodNamed Bd.named
  have hnm := (name_of_methodNamed Bd.named Bd.method).1
  have X0 : Stand p l e ({ frames := 4, cells := 1, slots := 3, locals := 64 } : Room) s m #[(.ref s_), (.ref u8)] below meth c s₁ [] 0 0 := Stand.of_body Bd
  have e0 : s₁.heap = h0 := by rw [← hh, Bd.state]; rfl
  have N0 := Fr.nil n0
  show own_Ends p e below s₁ (entryFrame m #[(.ref s_), (.ref u8)] 2) (fun ou Uw => ∃ vu Lu, ou = .returned vu ∧ Q_own_rgb Z z cs h0 n0 vu Uw.heap Lu ∧ FrameEnd s ou Uw Lu ({ frames := 4, cells := 1, slots := 3, locals := 64 } : Room).cells ({ frames := 4, cells := 1, slots := 3, locals := 64 } : Room).slots)
  refine own_start (g' := (mkF m 0 #[rv s_, rv u8] [])) (by first | (simp [entryFrame, mkF, argsToLocals, Value.category, iv, rv]; done) | rfl) ?_
  refine own_go (T' := s₁) (g' := (mkF m 1 #[rv s_, rv u8] [(.ref u8)])) (fun t k => XS.aloadN X0.here hx rfl (hb hby own_d_jdk_42_method_64_code_0) rfl rfl k) ?_
  refine own_go (T' := s₁) (g' := (mkF m 12 #[rv s_, rv u8] [])) (fun t k => XS.ifnonnullYes X0.here hx rfl (pc0 := 1) (pc' := 12) rfl (hb hby own_d_jdk_42_method_64_code_1) rfl (by decide) (by decide) k) ?_
  refine own_go (T' := s₁) (g' := (mkF m 13 #[rv s_, rv u8] [(.ref u8)])) (fun t k => XS.aloadN X0.here hx rfl (hb hby own_d_jdk_42_method_64_code_12) rfl rfl k) ?_
  refine own_go (T' := s₁) (g' := (mkF m 14 #[rv s_, rv u8] [(.ref s_), (.ref u8)])) (fun t k => XS.aloadN X0.here hx rfl (hb hby own_d_jdk_42_method_64_code_13) rfl rfl k) ?_
  obtain ⟨cq320, kq320, q320a, q320b, q320c⟩ := isOf hZ e0 E_s
  obtain ⟨_, _, ⟨T320, L320, k320, n320⟩, -, X320, ⟨Lc320, hQ320, l320, y320, z320⟩, st320⟩ := X0.virtualBack hx (y := (⟨"java/lang/String", "coder", "()B"⟩ : MethodName)) (z := (⟨"java/lang/String", "coder", "()B"⟩ : MethodName)) hown (mvT hZ (hw _ (List.mem_of_getElem? (i := 84) rfl))) (mvT hZ (hw _ (List.mem_of_getElem? (i := 85) rfl))) (notFace_of_selects (args := #[]) (mvT hZ (hw _ (List.mem_of_getElem? (i := 87) rfl)))) (mvT hZ (hw _ (List.mem_of_getElem? (i := 87) rfl))) (mvT hZ (hw _ (List.mem_of_getElem? (i := 86) rfl))) (by decide) (backOf (W := 1) (own_rcd l Z a0 hw [] s_ cp h0 n0 Z0 F_c S_cp hcp) hZ (hw _ (List.mem_of_getElem? (i := 88) rfl)) (hw _ (List.mem_of_getElem? (i := 10) rfl)) (by decide) (by decide)) q320a q320c (g := (mkF m 14 #[rv s_, rv u8] [(.ref s_), (.ref u8)])) rfl (by rw [hml]; rfl) (Steps.refl _) (argsL := []) (rest := [(.ref u8)]) (lenOf own_pd9 rfl) rfl (by show 2 * 0 + _ ≤ _; exact Nat.le_of_eq rfl) (hb hby own_d_jdk_42_method_64_code_14) (fun _ _ => ⟨rfl, e0, (by decide : 0 + 0 ≤ _), (by decide : 0 + 0 ≤ _)⟩)
  dsimp only [Pt.U, Pt.locs, Pt.cells, Pt.slots] at X320 l320 y320 z320 st320 hQ320
  subst l320 y320 z320
  obtain ⟨rfl, rfl, e320⟩ := hQ320
  have E320q : T320.heap = h0 := e320
  have N320 := Fr.app N0 (Fr.nil n0)
  refine own_go (T' := T320) (g' := (mkF m 17 #[rv s_, rv u8] [(.int (0 : Int32)), (.ref u8)])) (fun t k => st320.trans k) ?_
  refine own_go (T' := T320) (g' := (mkF m 18 #[rv s_, rv u8] [(.ref s_), (.int (0 : Int32)), (.ref u8)])) (fun t k => XS.aloadN X320.here hx rfl (hb hby own_d_jdk_42_method_64_code_17) rfl rfl k) ?_
  obtain ⟨T321, X321, e321, st321⟩ := getF X320 hx hZ hown (host := "") (Or.inl (hw _ (List.mem_of_getElem? (i := 36) rfl))) Via.refl E320q F_v (g := (mkF m 18 #[rv s_, rv u8] [(.ref s_), (.int (0 : Int32)), (.ref u8)])) rfl rfl (hb hby own_d_jdk_42_method_64_code_18)
  refine own_go (T' := T321) (g' := (mkF m 21 #[rv s_, rv u8] [(.ref b), (.int (0 : Int32)), (.ref u8)])) (st321) ?_
  obtain ⟨_, _, ⟨T322, L322, k322, n322⟩, -, X322, ⟨Lc322, hQ322, l322, y322, z322⟩, st322⟩ := Jvm.LawKit.callS X321 hx (y := (⟨"java/lang/String", "encode", "(Ljava/nio/charset/Charset;B[B)[B"⟩ : MethodName)) hown (mvT hZ (hw _ (List.mem_of_getElem? (i := 96) rfl))) (mvT hZ (hw _ (List.mem_of_getElem? (i := 97) rfl))) (mvT hZ (hw _ (List.mem_of_getElem? (i := 10) rfl))) (mvT hZ (hw _ (List.mem_of_getElem? (i := 98) rfl))) (by decide) (backOf (W := 0) (own_ren l Z a0 hw [] b u8 kb z cs h0 n0 Z0 V_b E_b ok S_u8 S_in) hZ (hw _ (List.mem_of_getElem? (i := 98) rfl)) (hw _ (List.mem_of_getElem? (i := 10) rfl)) (by decide) (by decide)) (g := (mkF m 21 #[rv s_, rv u8] [(.ref b), (.int (0 : Int32)), (.ref u8)])) rfl (by rw [hml]; rfl) (argsL := [(.ref u8), (.int (0 : Int32)), (.ref b)]) (rest := []) (lenOf own_pd13 rfl) rfl (by show 2 * 0 + _ ≤ _; exact Nat.le_of_eq rfl) (hb hby own_d_jdk_42_method_64_code_21) (fun _ _ => ⟨rfl, e321, (by decide : 0 + 1 ≤ _), (by decide : 0 + 3 ≤ _)⟩)
  dsimp only [Pt.U, Pt.locs, Pt.cells, Pt.slots] at X322 l322 y322 z322 st322 hQ322
  subst l322 y322 z322
  obtain ⟨b_322, k_322, rfl, N322q, ob_322, K_322, V_322⟩ := hQ322
  have N322 := Fr.app N320 N322q
  have nq323 : s_ ≠ b_322 := Nat.ne_of_lt (Nat.lt_of_lt_of_le E_s.lt ob_322)
  have nq324 : b ≠ b_322 := Nat.ne_of_lt (Nat.lt_of_lt_of_le V_b.lt ob_322)
  have oo_322 : h0.size ≤ b_322 := Nat.le_trans (Keep.refl h0 []).1 ob_322
  have c325 := E_s.keep K_322
  have c326 := F_c.keep K_322 nin0
  have c327 := F_v.keep K_322 nin0
  have c328 := V_b.keep K_322 nin0
  have c329 := E_b.keep K_322
  have c330 := own_sta_keep S_cp K_322 own_ns0
  have c331 := own_sta_keep S_u8 K_322 own_ns0
  have c332 := own_sta_keep S_in K_322 own_ns0
  have hz322 : n0 ≤ T322.heap.size := Nat.le_trans Z0 K_322.1
  have K322 := Keep.trans (Keep.refl h0 []) K_322 all0
  refine own_go (T' := T322) (g' := (mkF m 24 #[rv s_, rv u8] [(.ref b_322)])) (st322) ?_
  exact own_ret X322 hlk hx Bd.returns rfl (Or.inr (Or.inr (Or.inr (Or.inr ⟨rfl, rfl, rfl⟩)))) (hb hby own_d_jdk_42_method_64_code_24) ⟨b_322, _, rfl, N322, oo_322, K322, V_322⟩ (by decide) (by decide)

theorem own_pd16 : parseMethodDescriptor "()I" = some ⟨[], some .int⟩ := by decide +kernel
theorem own_pd15 : parseMethodDescriptor "(I)C" = some ⟨[.int], some .char⟩ := by decide +kernel
theorem own_pd14 : parseMethodDescriptor "(Ljava/lang/Object;Ljava/lang/String;)Ljava/lang/Object;" = some ⟨[(.object "java/lang/Object"), (.object "java/lang/String")], some (.object "java/lang/Object")⟩ := by decide +kernel
theorem own_pd17 : parseMethodDescriptor "(Ljava/nio/charset/Charset;)[B" = some ⟨[(.object "java/nio/charset/Charset")], some (.array .byte)⟩ := by decide +kernel
theorem own_d_prog_43_method_1_code_0 : decode prog_43_method_1_code 0 = .ok (.aload_n 0, 1) := by decide +kernel
theorem own_d_prog_43_method_1_code_1 : decode prog_43_method_1_code 1 = .ok (.invokespecial 1, 3) := by decide +kernel
theorem own_d_prog_43_method_1_code_4 : decode prog_43_method_1_code 4 = .ok (.aload_n 1, 1) := by decide +kernel
theorem own_d_prog_43_method_1_code_5 : decode prog_43_method_1_code 5 = .ok (.ldc 7, 2) := by decide +kernel
theorem own_d_prog_43_method_1_code_7 : decode prog_43_method_1_code 7 = .ok (.invokestatic 9, 3) := by decide +kernel
theorem own_d_prog_43_method_1_code_10 : decode prog_43_method_1_code 10 = .ok (.pop, 1) := by decide +kernel
theorem own_d_prog_43_method_1_code_11 : decode prog_43_method_1_code 11 = .ok (.aload_n 1, 1) := by decide +kernel
theorem own_d_prog_43_method_1_code_12 : decode prog_43_method_1_code 12 = .ok (.invokevirtual 15, 3) := by decide +kernel
theorem own_d_prog_43_method_1_code_15 : decode prog_43_method_1_code 15 = .ok (.ifCond .eq 13, 3) := by decide +kernel
theorem own_d_prog_43_method_1_code_28 : decode prog_43_method_1_code 28 = .ok (.aload_n 1, 1) := by decide +kernel
theorem own_d_prog_43_method_1_code_29 : decode prog_43_method_1_code 29 = .ok (.iconst 0, 1) := by decide +kernel
theorem own_d_prog_43_method_1_code_30 : decode prog_43_method_1_code 30 = .ok (.invokevirtual 28, 3) := by decide +kernel
theorem own_d_prog_43_method_1_code_33 : decode prog_43_method_1_code 33 = .ok (.bipush 36, 2) := by decide +kernel
theorem own_d_prog_43_method_1_code_35 : decode prog_43_method_1_code 35 = .ok (.if_icmp .ne 13, 3) := by decide +kernel
theorem own_d_prog_43_method_1_code_48 : decode prog_43_method_1_code 48 = .ok (.iconst 0, 1) := by decide +kernel
theorem own_d_prog_43_method_1_code_49 : decode prog_43_method_1_code 49 = .ok (.istore_n 2, 1) := by decide +kernel
theorem own_d_prog_43_method_1_code_50 : decode prog_43_method_1_code 50 = .ok (.iload_n 2, 1) := by decide +kernel
theorem own_d_prog_43_method_1_code_51 : decode prog_43_method_1_code 51 = .ok (.aload_n 1, 1) := by decide +kernel
theorem own_d_prog_43_method_1_code_52 : decode prog_43_method_1_code 52 = .ok (.invokevirtual 34, 3) := by decide +kernel
theorem own_d_prog_43_method_1_code_55 : decode prog_43_method_1_code 55 = .ok (.if_icmp .ge 69, 3) := by decide +kernel
theorem own_d_prog_43_method_1_code_58 : decode prog_43_method_1_code 58 = .ok (.aload_n 1, 1) := by decide +kernel
theorem own_d_prog_43_method_1_code_59 : decode prog_43_method_1_code 59 = .ok (.iload_n 2, 1) := by decide +kernel
theorem own_d_prog_43_method_1_code_60 : decode prog_43_method_1_code 60 = .ok (.invokevirtual 28, 3) := by decide +kernel
theorem own_d_prog_43_method_1_code_63 : decode prog_43_method_1_code 63 = .ok (.istore_n 3, 1) := by decide +kernel
theorem own_d_prog_43_method_1_code_64 : decode prog_43_method_1_code 64 = .ok (.iload_n 3, 1) := by decide +kernel
theorem own_d_prog_43_method_1_code_65 : decode prog_43_method_1_code 65 = .ok (.bipush 31, 2) := by decide +kernel
theorem own_d_prog_43_method_1_code_67 : decode prog_43_method_1_code 67 = .ok (.if_icmp .le 33, 3) := by decide +kernel
theorem own_d_prog_43_method_1_code_70 : decode prog_43_method_1_code 70 = .ok (.iload_n 3, 1) := by decide +kernel
theorem own_d_prog_43_method_1_code_71 : decode prog_43_method_1_code 71 = .ok (.bipush 127, 2) := by decide +kernel
theorem own_d_prog_43_method_1_code_73 : decode prog_43_method_1_code 73 = .ok (.if_icmp .ge 27, 3) := by decide +kernel
theorem own_d_prog_43_method_1_code_76 : decode prog_43_method_1_code 76 = .ok (.iload_n 3, 1) := by decide +kernel
theorem own_d_prog_43_method_1_code_77 : decode prog_43_method_1_code 77 = .ok (.bipush 43, 2) := by decide +kernel
theorem own_d_prog_43_method_1_code_79 : decode prog_43_method_1_code 79 = .ok (.if_icmp .eq 21, 3) := by decide +kernel
theorem own_d_prog_43_method_1_code_82 : decode prog_43_method_1_code 82 = .ok (.iload_n 3, 1) := by decide +kernel
theorem own_d_prog_43_method_1_code_83 : decode prog_43_method_1_code 83 = .ok (.bipush 35, 2) := by decide +kernel
theorem own_d_prog_43_method_1_code_85 : decode prog_43_method_1_code 85 = .ok (.if_icmp .eq 15, 3) := by decide +kernel
theorem own_d_prog_43_method_1_code_88 : decode prog_43_method_1_code 88 = .ok (.iload_n 3, 1) := by decide +kernel
theorem own_d_prog_43_method_1_code_89 : decode prog_43_method_1_code 89 = .ok (.bipush 44, 2) := by decide +kernel
theorem own_d_prog_43_method_1_code_91 : decode prog_43_method_1_code 91 = .ok (.if_icmp .eq 9, 3) := by decide +kernel
theorem own_d_prog_43_method_1_code_94 : decode prog_43_method_1_code 94 = .ok (.iinc 2 1, 3) := by decide +kernel
theorem own_d_prog_43_method_1_code_97 : decode prog_43_method_1_code 97 = .ok (.goto (-47), 3) := by decide +kernel
theorem own_d_prog_43_method_1_code_124 : decode prog_43_method_1_code 124 = .ok (.aload_n 1, 1) := by decide +kernel
theorem own_d_prog_43_method_1_code_125 : decode prog_43_method_1_code 125 = .ok (.getstatic 53, 3) := by decide +kernel
theorem own_d_prog_43_method_1_code_128 : decode prog_43_method_1_code 128 = .ok (.invokevirtual 59, 3) := by decide +kernel
theorem own_d_prog_43_method_1_code_131 : decode prog_43_method_1_code 131 = .ok (.astore_n 3, 1) := by decide +kernel
theorem own_d_prog_43_method_1_code_132 : decode prog_43_method_1_code 132 = .ok (.aload_n 3, 1) := by decide +kernel
theorem own_d_prog_43_method_1_code_133 : decode prog_43_method_1_code 133 = .ok (.arraylength, 1) := by decide +kernel
theorem own_d_prog_43_method_1_code_134 : decode prog_43_method_1_code 134 = .ok (.ldc 63, 2) := by decide +kernel
theorem own_d_prog_43_method_1_code_136 : decode prog_43_method_1_code 136 = .ok (.if_icmp .le 18, 3) := by decide +kernel
theorem own_d_prog_43_method_1_code_154 : decode prog_43_method_1_code 154 = .ok (.aload_n 0, 1) := by decide +kernel
theorem own_d_prog_43_method_1_code_155 : decode prog_43_method_1_code 155 = .ok (.aload_n 1, 1) := by decide +kernel
theorem own_d_prog_43_method_1_code_156 : decode prog_43_method_1_code 156 = .ok (.putfield 68, 3) := by decide +kernel
theorem own_d_prog_43_method_1_code_159 : decode prog_43_method_1_code 159 = .ok (.aload_n 0, 1) := by decide +kernel
theorem own_d_prog_43_method_1_code_160 : decode prog_43_method_1_code 160 = .ok (.aload_n 3, 1) := by decide +kernel
theorem own_d_prog_43_method_1_code_161 : decode prog_43_method_1_code 161 = .ok (.putfield 71, 3) := by decide +kernel
theorem own_d_prog_43_method_1_code_164 : decode prog_43_method_1_code 164 = .ok (.return_, 1) := by decide +kernel
def Q_own_rti (Z : State) (a x : Addr) (h0 : Heap) (n0 : Nat) (v : Option Value) (h : Heap) (L : List Loc) : Prop := v = none ∧ Fr n0 L ∧ Keep h0 h [a] ∧ Exa Z h a "com/example/events_in_order/eventsinorder/model/Topic" ∧ Fld Z h a "com/example/events_in_order/eventsinorder/model/Topic" "name" "Ljava/lang/String;" (.ref x)
set_option maxRecDepth 65536 in
set_option maxHeartbeats 40000000 in
theorem own_rti (l : Launch) (Z : State) (a0 : Array Value) (hw : ∀ d ∈ tables_1, d.before a0 Z = true) (ws : List Jvm.Cond) (a s_ b u8 : Addr) (kb : ClassId) (z cp : Int32) (fm : Value) (cs : List Int32) (h0 : Heap) (n0 : Nat) (Z0 : n0 ≤ h0.size) (E_a : Exa Z h0 a "com/example/events_in_order/eventsinorder/model/Topic") (g_a : n0 ≤ a) (F_nm : Fld Z h0 a "com/example/events_in_order/eventsinorder/model/Topic" "name" "Ljava/lang/String;" .null) (F_en : Fld Z h0 a "com/example/events_in_order/eventsinorder/model/Topic" "encodedName" "[B" .null) (E_s : Exa Z h0 s_ "java/lang/String") (F_c : Fld Z h0 s_ "java/lang/String" "coder" "B" (.int 0)) (F_v : Fld Z h0 s_ "java/lang/String" "value" "[B" (.ref b)) (V_b : Arv Z h0 b kb .byte z (cs.map Value.int) (.int (0 : Int32))) (E_b : Exa Z h0 b "[B") (ok : own_OK z cs) (n_sa : s_ ≠ a) (n_ba : b ≠ a) (S_cp : Sta Z h0 "java/lang/String" "COMPACT_STRINGS" "Z" (.int cp)) (hcp : ¬ cp = 0) (S_fm : Sta Z h0 "jdk/internal/util/Preconditions" "SIOOBE_FORMATTER" "Ljava/util/function/BiFunction;" fm) (hfm : fm.isRef = true) (S_u8 : Sta Z h0 "java/nio/charset/StandardCharsets" "UTF_8" "Ljava/nio/charset/Charset;" (.ref u8)) (S_in : Sta Z h0 "sun/nio/cs/UTF_8" "INSTANCE" "Lsun/nio/cs/UTF_8;" (.ref u8)) :
    MetFree l (⟨"com/example/events_in_order/eventsinorder/model/Topic", "<init>", "(Ljava/lang/String;)V"⟩ : MethodName) (head1 (Jvm.Cond.code (⟨"com/example/events_in_order/eventsinorder/model/Topic", "<init>", "(Ljava/lang/String;)V"⟩ : MethodName) prog_43_method_1_code 5 none :: ws) ({ frames := 5, cells := 3, slots := 23, locals := 77 } : Room)) (fun au Uu => au = #[(.ref a), (.ref s_)] ∧ Z.Warmed39 Uu.vm ∧ Uu.heap = h0) (fun _ _ _ _ _ => True) (fun _ Uu ou Uw => ∃ vu Lu, ou = .returned vu ∧ Q_own_rti Z a s_ h0 n0 vu Uw.heap Lu ∧ ReturnedEndW Uu ou Uw Lu ({ frames := 5, cells := 3, slots := 23, locals := 77 } : Room).cells ({ frames := 5, cells := 3, slots := 23, locals := 77 } : Room).slots) := by
  refine MetFree.of_bodySF (plainFor_of_name (by first | (simp [plainName, overriddenIn]; done) | decide +kernel)) hisR ?_
  intro p e s m args below meth c s₁ Bd hml0 hP hK
  obtain ⟨rfl, hZ, hh⟩ := hP
  have hx := Bd.exec
  have hby := Bd.bytes
  have hlk := Bd.notSynchronized
  have hml : c.maxLocals = 5 := hml0
  have hown : s.vm.findClass "com/example/events_in_order/eventsinorder/model/Topic" = some m.cls := findClass_of_methodNamed Bd.named
  have hnm := (name_of_methodNamed Bd.named Bd.method).1
  have X0 : Stand p l e ({ frames := 5, cells := 3, slots := 23, locals := 77 } : Room) s m #[(.ref a), (.ref s_)] below meth c s₁ [] 0 0 := Stand.of_body Bd
  have e0 : s₁.heap = h0 := by rw [← hh, Bd.state]; rfl
  have N0 := Fr.nil n0
  show own_Ends p e below s₁ (entryFrame m #[(.ref a), (.ref s_)] 5) (fun ou Uw => ∃ vu Lu, ou = .returned vu ∧ Q_own_rti Z a s_ h0 n0 vu Uw.heap Lu ∧ ReturnedEndW s ou Uw Lu ({ frames := 5, cells := 3, slots := 23, locals := 77 } : Room).cells ({ frames := 5, cells := 3, slots := 23, locals := 77 } : Room).slots)
  refine own_start (g' := (mkF m 0 #[rv a, rv s_, .unset, .unset, .unset] [])) (by first | (simp [entryFrame, mkF, argsToLocals, Value.category, iv, rv]; done) | rfl) ?_
  rcases ok with ⟨c0, rfl, rfl, q0⟩ | ⟨c0, c1, rfl, rfl, q0, q1⟩ | ⟨c0, c1, c2, rfl, rfl, q0, q1, q2⟩
  · have V333 : Arv Z h0 b kb .byte (1 : Int32) [(.int c0)] (.int (0 : Int32)) := V_b
    refine own_go (T' := s₁) (g' := (mkF m 1 #[rv a, rv s_, .unset, .unset, .unset] [(.ref a)])) (fun t k => XS.aloadN X0.here hx rfl (hb hby own_d_prog_43_method_1_code_0) rfl rfl k) ?_
    obtain ⟨T334, X334, e334, st334⟩ := initO X0 hx hZ hown (hw _ (List.mem_of_getElem? (i := 44) rfl)) (hw _ (List.mem_of_getElem? (i := 20) rfl)) (hw _ (List.mem_of_getElem? (i := 21) rfl)) e0 (g := (mkF m 1 #[rv a, rv s_, .unset, .unset, .unset] [(.ref a)])) rfl (by rw [hml]; rfl) rfl (hb hby own_d_prog_43_method_1_code_1) (by decide) (W := 0) (by show 2 * 0 + _ ≤ _; exact Nat.le_of_eq rfl) (by decide)
    refine own_go (T' := T334) (g' := (mkF m 4 #[rv a, rv s_, .unset, .unset, .unset] [])) (st334) ?_
    refine own_go (T' := T334) (g' := (mkF m 5 #[rv a, rv s_, .unset, .unset, .unset] [(.ref s_)])) (fun t k => XS.aloadN X334.here hx rfl (hb hby own_d_prog_43_method_1_code_4) rfl rfl k) ?_
    obtain ⟨aS, T335, h335, kS, X335, e335, E335, hS, hk335, hZ, hown, st335⟩ := ldcS (vm0 := s.vm) X334 hx hZ hown (hw _ (List.mem_of_getElem? (i := 45) rfl)) (by intro a ha; simp only [Bundle.stringAtoms, List.mem_cons, List.not_mem_nil, or_false] at ha; rcases ha with rfl | rfl | rfl | rfl | rfl | rfl | rfl; exact (hw _ (List.mem_of_getElem? (i := 10) rfl)); exact (hw _ (List.mem_of_getElem? (i := 9) rfl)); exact (hw _ (List.mem_of_getElem? (i := 27) rfl)); exact (hw _ (List.mem_of_getElem? (i := 37) rfl)); exact (hw _ (List.mem_of_getElem? (i := 35) rfl)); exact (hw _ (List.mem_of_getElem? (i := 46) rfl)); exact (hw _ (List.mem_of_getElem? (i := 47) rfl))) e334 ((State.WarmedH.refl s).since 0) (Nat.zero_le _) (g := (mkF m 5 #[rv a, rv s_, .unset, .unset, .unset] [(.ref s_)])) rfl (hb hby own_d_prog_43_method_1_code_5) (n := 16) (by decide) (by decide) (by decide) (by decide)
    have hz335 : n0 ≤ h335.size := Nat.le_trans Z0 E335.1
    have K335 := (Keep.refl h0 [a]).ext E335
    have c336 := E_a.ext E335
    have c337 := F_nm.ext E335
    have c338 := F_en.ext E335
    have c339 := E_s.ext E335
    have c340 := F_c.ext E335
    have c341 := F_v.ext E335
    have c342 := V333.ext E335
    have c343 := E_b.ext E335
    have c344 := S_cp.ext E335
    have c345 := S_fm.ext E335
    have c346 := S_u8.ext E335
    have c347 := S_in.ext E335
    refine own_go (T' := T335) (g' := (mkF m 7 #[rv a, rv s_, .unset, .unset, .unset] [(.ref aS), (.ref s_)])) (st335) ?_
    obtain ⟨_, _, ⟨T348, L348, k348, n348⟩, -, X348, ⟨Lc348, hQ348, l348, y348, z348⟩, st348⟩ := Jvm.LawKit.callS X335 hx (y := (⟨"java/util/Objects", "requireNonNull", "(Ljava/lang/Object;Ljava/lang/String;)Ljava/lang/Object;"⟩ : MethodName)) hown (mvT hZ (hw _ (List.mem_of_getElem? (i := 48) rfl))) (mvT hZ (hw _ (List.mem_of_getElem? (i := 49) rfl))) (mvT hZ (hw _ (List.mem_of_getElem? (i := 50) rfl))) (mvT hZ (hw _ (List.mem_of_getElem? (i := 51) rfl))) (by decide) (backOf (W := 0) (own_rrn l Z a0 hw [] s_ aS h335 n0 hz335) hZ (hw _ (List.mem_of_getElem? (i := 51) rfl)) (hw _ (List.mem_of_getElem? (i := 50) rfl)) (by decide) (by decide)) (g := (mkF m 7 #[rv a, rv s_, .unset, .unset, .unset] [(.ref aS), (.ref s_)])) rfl (by rw [hml]; rfl) (argsL := [(.ref s_), (.ref aS)]) (rest := []) (lenOf own_pd14 rfl) rfl (by show 2 * 0 + _ ≤ _; exact Nat.le_of_eq rfl) (hb hby own_d_prog_43_method_1_code_7) (fun _ _ => ⟨rfl, e335, (by decide : 2 + 0 ≤ _), (by decide : 20 + 0 ≤ _)⟩)
    dsimp only [Pt.U, Pt.locs, Pt.cells, Pt.slots] at X348 l348 y348 z348 st348 hQ348
    subst l348 y348 z348
    obtain ⟨rfl, rfl, e348⟩ := hQ348
    have E348q : T348.heap = h335 := e348
    have N348 := Fr.app N0 (Fr.nil n0)
    refine own_go (T' := T348) (g' := (mkF m 10 #[rv a, rv s_, .unset, .unset, .unset] [(.ref s_)])) (st348) ?_
    refine own_go (T' := T348) (g' := (mkF m 11 #[rv a, rv s_, .unset, .unset, .unset] [])) (fun t k => XS.pop X348.here hx rfl (hb hby own_d_prog_43_method_1_code_10) rfl rfl k) ?_
    refine own_go (T' := T348) (g' := (mkF m 12 #[rv a, rv s_, .unset, .unset, .unset] [(.ref s_)])) (fun t k => XS.aloadN X348.here hx rfl (hb hby own_d_prog_43_method_1_code_11) rfl rfl k) ?_
    obtain ⟨cq349, kq349, q349a, q349b, q349c⟩ := isOf hZ E348q c339
    obtain ⟨_, _, ⟨T349, L349, k349, n349⟩, -, X349, ⟨Lc349, hQ349, l349, y349, z349⟩, st349⟩ := X348.virtualBack hx (y := (⟨"java/lang/String", "isEmpty", "()Z"⟩ : MethodName)) (z := (⟨"java/lang/String", "isEmpty", "()Z"⟩ : MethodName)) hown (mvT hZ (hw _ (List.mem_of_getElem? (i := 52) rfl))) (mvT hZ (hw _ (List.mem_of_getElem? (i := 53) rfl))) (notFace_of_selects (args := #[]) (mvT hZ (hw _ (List.mem_of_getElem? (i := 55) rfl)))) (mvT hZ (hw _ (List.mem_of_getElem? (i := 55) rfl))) (mvT hZ (hw _ (List.mem_of_getElem? (i := 54) rfl))) (by decide) (backOf (W := 0) (own_rem l Z a0 hw [] s_ b kb (1 : Int32) [(.int c0)] h335 n0 hz335 c341 c342 (by decide)) hZ (hw _ (List.mem_of_getElem? (i := 56) rfl)) (hw _ (List.mem_of_getElem? (i := 10) rfl)) (by decide) (by decide)) q349a q349c (g := (mkF m 12 #[rv a, rv s_, .unset, .unset, .unset] [(.ref s_)])) rfl (by rw [hml]; rfl) (Steps.refl _) (argsL := []) (rest := []) (lenOf own_pd7 rfl) rfl (by show 2 * 0 + _ ≤ _; exact Nat.le_of_eq rfl) (hb hby own_d_prog_43_method_1_code_12) (fun _ _ => ⟨rfl, E348q, (by decide : 2 + 0 ≤ _), (by decide : 20 + 0 ≤ _)⟩)
    dsimp only [Pt.U, Pt.locs, Pt.cells, Pt.slots] at X349 l349 y349 z349 st349 hQ349
    subst l349 y349 z349
    obtain ⟨rfl, rfl, e349⟩ := hQ349
    have E349q : T349.heap = h335 := e349
    have N349 := Fr.app N348 (Fr.nil n0)
    refine own_go (T' := T349) (g' := (mkF m 15 #[rv a, rv s_, .unset, .unset, .unset] [(.int (0 : Int32))])) (fun t k => st349.trans k) ?_
    refine own_go (T' := T349) (g' := (mkF m 28 #[rv a, rv s_, .unset, .unset, .unset] [])) (fun t k => XS.ifYes X349.here hx rfl (pc0 := 15) (pc' := 28) rfl (hb hby own_d_prog_43_method_1_code_15) rfl ((if0 _ _).trans (teq (by decide : ((0 : Int32) = (0 : Int32)))).1) (by decide) (by decide) k) ?_
    refine own_go (T' := T349) (g' := (mkF m 29 #[rv a, rv s_, .unset, .unset, .unset] [(.ref s_)])) (fun t k => XS.aloadN X349.here hx rfl (hb hby own_d_prog_43_method_1_code_28) rfl rfl k) ?_
    refine own_go (T' := T349) (g' := (mkF m 30 #[rv a, rv s_, .unset, .unset, .unset] [(.int (0 : Int32)), (.ref s_)])) (fun t k => XS.iconst X349.here hx rfl (hb hby own_d_prog_43_method_1_code_29) k) ?_
    obtain ⟨cq350, kq350, q350a, q350b, q350c⟩ := isOf hZ E349q c339
    obtain ⟨_, _, ⟨T350, L350, k350, n350⟩, -, X350, ⟨Lc350, hQ350, l350, y350, z350⟩, st350⟩ := X349.virtualBack hx (y := (⟨"java/lang/String", "charAt", "(I)C"⟩ : MethodName)) (z := (⟨"java/lang/String", "charAt", "(I)C"⟩ : MethodName)) hown (mvT hZ (hw _ (List.mem_of_getElem? (i := 57) rfl))) (mvT hZ (hw _ (List.mem_of_getElem? (i := 58) rfl))) (notFace_of_selects (args := #[]) (mvT hZ (hw _ (List.mem_of_getElem? (i := 60) rfl)))) (mvT hZ (hw _ (List.mem_of_getElem? (i := 60) rfl))) (mvT hZ (hw _ (List.mem_of_getElem? (i := 59) rfl))) (by decide) (backOf (W := 0) (own_rca l Z a0 hw [] s_ b kb (0 : Int32) (1 : Int32) c0 cp [(.int c0)] fm h335 n0 hz335 c339 c340 c341 c342 (by decide) (by decide) rfl q0 c344 hcp c345 hfm) hZ (hw _ (List.mem_of_getElem? (i := 61) rfl)) (hw _ (List.mem_of_getElem? (i := 10) rfl)) (by decide) (by decide)) q350a q350c (g := (mkF m 30 #[rv a, rv s_, .unset, .unset, .unset] [(.int (0 : Int32)), (.ref s_)])) rfl (by rw [hml]; rfl) (Steps.refl _) (argsL := [(.int (0 : Int32))]) (rest := []) (lenOf own_pd15 rfl) rfl (by show 2 * 0 + _ ≤ _; exact Nat.le_of_eq rfl) (hb hby own_d_prog_43_method_1_code_30) (fun _ _ => ⟨rfl, E349q, (by decide : 2 + 0 ≤ _), (by decide : 20 + 0 ≤ _)⟩)
    dsimp only [Pt.U, Pt.locs, Pt.cells, Pt.slots] at X350 l350 y350 z350 st350 hQ350
    subst l350 y350 z350
    obtain ⟨rfl, rfl, e350⟩ := hQ350
    have E350q : T350.heap = h335 := e350
    have N350 := Fr.app N349 (Fr.nil n0)
    refine own_go (T' := T350) (g' := (mkF m 33 #[rv a, rv s_, .unset, .unset, .unset] [(.int c0)])) (fun t k => st350.trans k) ?_
    refine own_go (T' := T350) (g' := (mkF m 35 #[rv a, rv s_, .unset, .unset, .unset] [(.int (36 : Int32)), (.int c0)])) (fun t k => XS.bipush X350.here hx rfl (hb hby own_d_prog_43_method_1_code_33) k) ?_
    refine own_go (T' := T350) (g' := (mkF m 48 #[rv a, rv s_, .unset, .unset, .unset] [])) (fun t k => XS.icmpYes X350.here hx rfl (pc0 := 35) (pc' := 48) rfl (hb hby own_d_prog_43_method_1_code_35) rfl (feq (own_cne q0 (by decide) : ¬ (c0 = (36 : Int32)))).2 (by decide) (by decide) k) ?_
    refine own_go (T' := T350) (g' := (mkF m 49 #[rv a, rv s_, .unset, .unset, .unset] [(.int (0 : Int32))])) (fun t k => XS.iconst X350.here hx rfl (hb hby own_d_prog_43_method_1_code_48) k) ?_
    refine own_go (T' := T350) (g' := (mkF m 50 #[rv a, rv s_, iv (0 : Int32), .unset, .unset] [])) (fun t k => XS.istoreN X350.here hx rfl (hb hby own_d_prog_43_method_1_code_49) rfl (l' := #[rv a, rv s_, iv (0 : Int32), .unset, .unset]) rfl k) ?_
    refine own_go (T' := T350) (g' := (mkF m 51 #[rv a, rv s_, iv (0 : Int32), .unset, .unset] [(.int (0 : Int32))])) (fun t k => XS.iloadN X350.here hx rfl (hb hby own_d_prog_43_method_1_code_50) rfl k) ?_
    refine own_go (T' := T350) (g' := (mkF m 52 #[rv a, rv s_, iv (0 : Int32), .unset, .unset] [(.ref s_), (.int (0 : Int32))])) (fun t k => XS.aloadN X350.here hx rfl (hb hby own_d_prog_43_method_1_code_51) rfl rfl k) ?_
    obtain ⟨cq351, kq351, q351a, q351b, q351c⟩ := isOf hZ E350q c339
    obtain ⟨_, _, ⟨T351, L351, k351, n351⟩, -, X351, ⟨Lc351, hQ351, l351, y351, z351⟩, st351⟩ := X350.virtualBack hx (y := (⟨"java/lang/String", "length", "()I"⟩ : MethodName)) (z := (⟨"java/lang/String", "length", "()I"⟩ : MethodName)) hown (mvT hZ (hw _ (List.mem_of_getElem? (i := 79) rfl))) (mvT hZ (hw _ (List.mem_of_getElem? (i := 80) rfl))) (notFace_of_selects (args := #[]) (mvT hZ (hw _ (List.mem_of_getElem? (i := 82) rfl)))) (mvT hZ (hw _ (List.mem_of_getElem? (i := 82) rfl))) (mvT hZ (hw _ (List.mem_of_getElem? (i := 81) rfl))) (by decide) (backOf (W := 1) (own_rln l Z a0 hw [] s_ b kb (1 : Int32) cp [(.int c0)] h335 n0 hz335 c339 c340 c341 c342 c344 hcp (by decide)) hZ (hw _ (List.mem_of_getElem? (i := 83) rfl)) (hw _ (List.mem_of_getElem? (i := 10) rfl)) (by decide) (by decide)) q351a q351c (g := (mkF m 52 #[rv a, rv s_, iv (0 : Int32), .unset, .unset] [(.ref s_), (.int (0 : Int32))])) rfl (by rw [hml]; rfl) (Steps.refl _) (argsL := []) (rest := [(.int (0 : Int32))]) (lenOf own_pd16 rfl) rfl (by show 2 * 0 + _ ≤ _; exact Nat.le_of_eq rfl) (hb hby own_d_prog_43_method_1_code_52) (fun _ _ => ⟨rfl, E350q, (by decide : 2 + 0 ≤ _), (by decide : 20 + 0 ≤ _)⟩)
    dsimp only [Pt.U, Pt.locs, Pt.cells, Pt.slots] at X351 l351 y351 z351 st351 hQ351
    subst l351 y351 z351
    obtain ⟨rfl, rfl, e351⟩ := hQ351
    have E351q : T351.heap = h335 := e351
    have N351 := Fr.app N350 (Fr.nil n0)
    refine own_go (T' := T351) (g' := (mkF m 55 #[rv a, rv s_, iv (0 : Int32), .unset, .unset] [(.int (1 : Int32)), (.int (0 : Int32))])) (fun t k => st351.trans k) ?_
    refine own_go (T' := T351) (g' := (mkF m 58 #[rv a, rv s_, iv (0 : Int32), .unset, .unset] [])) (fun t k => XS.icmpNo X351.here hx rfl (hb hby own_d_prog_43_method_1_code_55) rfl (tlt (by decide : ((0 : Int32) < (1 : Int32)))).2.1 k) ?_
    refine own_go (T' := T351) (g' := (mkF m 59 #[rv a, rv s_, iv (0 : Int32), .unset, .unset] [(.ref s_)])) (fun t k => XS.aloadN X351.here hx rfl (hb hby own_d_prog_43_method_1_code_58) rfl rfl k) ?_
    refine own_go (T' := T351) (g' := (mkF m 60 #[rv a, rv s_, iv (0 : Int32), .unset, .unset] [(.int (0 : Int32)), (.ref s_)])) (fun t k => XS.iloadN X351.here hx rfl (hb hby own_d_prog_43_method_1_code_59) rfl k) ?_
    obtain ⟨cq352, kq352, q352a, q352b, q352c⟩ := isOf hZ E351q c339
    obtain ⟨_, _, ⟨T352, L352, k352, n352⟩, -, X352, ⟨Lc352, hQ352, l352, y352, z352⟩, st352⟩ := X351.virtualBack hx (y := (⟨"java/lang/String", "charAt", "(I)C"⟩ : MethodName)) (z := (⟨"java/lang/String", "charAt", "(I)C"⟩ : MethodName)) hown (mvT hZ (hw _ (List.mem_of_getElem? (i := 57) rfl))) (mvT hZ (hw _ (List.mem_of_getElem? (i := 58) rfl))) (notFace_of_selects (args := #[]) (mvT hZ (hw _ (List.mem_of_getElem? (i := 60) rfl)))) (mvT hZ (hw _ (List.mem_of_getElem? (i := 60) rfl))) (mvT hZ (hw _ (List.mem_of_getElem? (i := 59) rfl))) (by decide) (backOf (W := 0) (own_rca l Z a0 hw [] s_ b kb (0 : Int32) (1 : Int32) c0 cp [(.int c0)] fm h335 n0 hz335 c339 c340 c341 c342 (by decide) (by decide) rfl q0 c344 hcp c345 hfm) hZ (hw _ (List.mem_of_getElem? (i := 61) rfl)) (hw _ (List.mem_of_getElem? (i := 10) rfl)) (by decide) (by decide)) q352a q352c (g := (mkF m 60 #[rv a, rv s_, iv (0 : Int32), .unset, .unset] [(.int (0 : Int32)), (.ref s_)])) rfl (by rw [hml]; rfl) (Steps.refl _) (argsL := [(.int (0 : Int32))]) (rest := []) (lenOf own_pd15 rfl) rfl (by show 2 * 0 + _ ≤ _; exact Nat.le_of_eq rfl) (hb hby own_d_prog_43_method_1_code_60) (fun _ _ => ⟨rfl, E351q, (by decide : 2 + 0 ≤ _), (by decide : 20 + 0 ≤ _)⟩)
    dsimp only [Pt.U, Pt.locs, Pt.cells, Pt.slots] at X352 l352 y352 z352 st352 hQ352
    subst l352 y352 z352
    obtain ⟨rfl, rfl, e352⟩ := hQ352
    have E352q : T352.heap = h335 := e352
    have N352 := Fr.app N351 (Fr.nil n0)
    refine own_go (T' := T352) (g' := (mkF m 63 #[rv a, rv s_, iv (0 : Int32), .unset, .unset] [(.int c0)])) (fun t k => st352.trans k) ?_
    refine own_go (T' := T352) (g' := (mkF m 64 #[rv a, rv s_, iv (0 : Int32), iv c0, .unset] [])) (fun t k => XS.istoreN X352.here hx rfl (hb hby own_d_prog_43_method_1_code_63) rfl (l' := #[rv a, rv s_, iv (0 : Int32), iv c0, .unset]) rfl k) ?_
    refine own_go (T' := T352) (g' := (mkF m 65 #[rv a, rv s_, iv (0 : Int32), iv c0, .unset] [(.int c0)])) (fun t k => XS.iloadN X352.here hx rfl (hb hby own_d_prog_43_method_1_code_64) rfl k) ?_
    refine own_go (T' := T352) (g' := (mkF m 67 #[rv a, rv s_, iv (0 : Int32), iv c0, .unset] [(.int (31 : Int32)), (.int c0)])) (fun t k => XS.bipush X352.here hx rfl (hb hby own_d_prog_43_method_1_code_65) k) ?_
    refine own_go (T' := T352) (g' := (mkF m 70 #[rv a, rv s_, iv (0 : Int32), iv c0, .unset] [])) (fun t k => XS.icmpNo X352.here hx rfl (hb hby own_d_prog_43_method_1_code_67) rfl (tlt (own_c31 q0 : ((31 : Int32) < c0))).2.2.2 k) ?_
    refine own_go (T' := T352) (g' := (mkF m 71 #[rv a, rv s_, iv (0 : Int32), iv c0, .unset] [(.int c0)])) (fun t k => XS.iloadN X352.here hx rfl (hb hby own_d_prog_43_method_1_code_70) rfl k) ?_
    refine own_go (T' := T352) (g' := (mkF m 73 #[rv a, rv s_, iv (0 : Int32), iv c0, .unset] [(.int (127 : Int32)), (.int c0)])) (fun t k => XS.bipush X352.here hx rfl (hb hby own_d_prog_43_method_1_code_71) k) ?_
    refine own_go (T' := T352) (g' := (mkF m 76 #[rv a, rv s_, iv (0 : Int32), iv c0, .unset] [])) (fun t k => XS.icmpNo X352.here hx rfl (hb hby own_d_prog_43_method_1_code_73) rfl (tlt (own_c127 q0 : (c0 < (127 : Int32)))).2.1 k) ?_
    refine own_go (T' := T352) (g' := (mkF m 77 #[rv a, rv s_, iv (0 : Int32), iv c0, .unset] [(.int c0)])) (fun t k => XS.iloadN X352.here hx rfl (hb hby own_d_prog_43_method_1_code_76) rfl k) ?_
    refine own_go (T' := T352) (g' := (mkF m 79 #[rv a, rv s_, iv (0 : Int32), iv c0, .unset] [(.int (43 : Int32)), (.int c0)])) (fun t k => XS.bipush X352.here hx rfl (hb hby own_d_prog_43_method_1_code_77) k) ?_
    refine own_go (T' := T352) (g' := (mkF m 82 #[rv a, rv s_, iv (0 : Int32), iv c0, .unset] [])) (fun t k => XS.icmpNo X352.here hx rfl (hb hby own_d_prog_43_method_1_code_79) rfl (feq (own_cne q0 (by decide) : ¬ (c0 = (43 : Int32)))).1 k) ?_
    refine own_go (T' := T352) (g' := (mkF m 83 #[rv a, rv s_, iv (0 : Int32), iv c0, .unset] [(.int c0)])) (fun t k => XS.iloadN X352.here hx rfl (hb hby own_d_prog_43_method_1_code_82) rfl k) ?_
    refine own_go (T' := T352) (g' := (mkF m 85 #[rv a, rv s_, iv (0 : Int32), iv c0, .unset] [(.int (35 : Int32)), (.int c0)])) (fun t k => XS.bipush X352.here hx rfl (hb hby own_d_prog_43_method_1_code_83) k) ?_
    refine own_go (T' := T352) (g' := (mkF m 88 #[rv a, rv s_, iv (0 : Int32), iv c0, .unset] [])) (fun t k => XS.icmpNo X352.here hx rfl (hb hby own_d_prog_43_method_1_code_85) rfl (feq (own_cne q0 (by decide) : ¬ (c0 = (35 : Int32)))).1 k) ?_
    refine own_go (T' := T352) (g' := (mkF m 89 #[rv a, rv s_, iv (0 : Int32), iv c0, .unset] [(.int c0)])) (fun t k => XS.iloadN X352.here hx rfl (hb hby own_d_prog_43_method_1_code_88) rfl k) ?_
    refine own_go (T' := T352) (g' := (mkF m 91 #[rv a, rv s_, iv (0 : Int32), iv c0, .unset] [(.int (44 : Int32)), (.int c0)])) (fun t k => XS.bipush X352.here hx rfl (hb hby own_d_prog_43_method_1_code_89) k) ?_
    refine own_go (T' := T352) (g' := (mkF m 94 #[rv a, rv s_, iv (0 : Int32), iv c0, .unset] [])) (fun t k => XS.icmpNo X352.here hx rfl (hb hby own_d_prog_43_method_1_code_91) rfl (feq (own_cne q0 (by decide) : ¬ (c0 = (44 : Int32)))).1 k) ?_
    refine own_go (T' := T352) (g' := (mkF m 97 #[rv a, rv s_, iv (1 : Int32), iv c0, .unset] [])) (fun t k => XS.iinc X352.here hx rfl (hb hby own_d_prog_43_method_1_code_94) rfl (l' := #[rv a, rv s_, iv (1 : Int32), iv c0, .unset]) rfl k) ?_
    refine own_go (T' := T352) (g' := (mkF m 50 #[rv a, rv s_, iv (1 : Int32), iv c0, .unset] [])) (fun t k => XS.goto X352.here hx rfl (pc0 := 97) (pc' := 50) rfl (hb hby own_d_prog_43_method_1_code_97) (by decide) (by decide) k) ?_
    refine own_go (T' := T352) (g' := (mkF m 51 #[rv a, rv s_, iv (1 : Int32), iv c0, .unset] [(.int (1 : Int32))])) (fun t k => XS.iloadN X352.here hx rfl (hb hby own_d_prog_43_method_1_code_50) rfl k) ?_
    refine own_go (T' := T352) (g' := (mkF m 52 #[rv a, rv s_, iv (1 : Int32), iv c0, .unset] [(.ref s_), (.int (1 : Int32))])) (fun t k => XS.aloadN X352.here hx rfl (hb hby own_d_prog_43_method_1_code_51) rfl rfl k) ?_
    obtain ⟨cq353, kq353, q353a, q353b, q353c⟩ := isOf hZ E352q c339
    obtain ⟨_, _, ⟨T353, L353, k353, n353⟩, -, X353, ⟨Lc353, hQ353, l353, y353, z353⟩, st353⟩ := X352.virtualBack hx (y := (⟨"java/lang/String", "length", "()I"⟩ : MethodName)) (z := (⟨"java/lang/String", "length", "()I"⟩ : MethodName)) hown (mvT hZ (hw _ (List.mem_of_getElem? (i := 79) rfl))) (mvT hZ (hw _ (List.mem_of_getElem? (i := 80) rfl))) (notFace_of_selects (args := #[]) (mvT hZ (hw _ (List.mem_of_getElem? (i := 82) rfl)))) (mvT hZ (hw _ (List.mem_of_getElem? (i := 82) rfl))) (mvT hZ (hw _ (List.mem_of_getElem? (i := 81) rfl))) (by decide) (backOf (W := 1) (own_rln l Z a0 hw [] s_ b kb (1 : Int32) cp [(.int c0)] h335 n0 hz335 c339 c340 c341 c342 c344 hcp (by decide)) hZ (hw _ (List.mem_of_getElem? (i := 83) rfl)) (hw _ (List.mem_of_getElem? (i := 10) rfl)) (by decide) (by decide)) q353a q353c (g := (mkF m 52 #[rv a, rv s_, iv (1 : Int32), iv c0, .unset] [(.ref s_), (.int (1 : Int32))])) rfl (by rw [hml]; rfl) (Steps.refl _) (argsL := []) (rest := [(.int (1 : Int32))]) (lenOf own_pd16 rfl) rfl (by show 2 * 0 + _ ≤ _; exact Nat.le_of_eq rfl) (hb hby own_d_prog_43_method_1_code_52) (fun _ _ => ⟨rfl, E352q, (by decide : 2 + 0 ≤ _), (by decide : 20 + 0 ≤ _)⟩)
    dsimp only [Pt.U, Pt.locs, Pt.cells, Pt.slots] at X353 l353 y353 z353 st353 hQ353
    subst l353 y353 z353
    obtain ⟨rfl, rfl, e353⟩ := hQ353
    have E353q : T353.heap = h335 := e353
    have N353 := Fr.app N352 (Fr.nil n0)
    refine own_go (T' := T353) (g' := (mkF m 55 #[rv a, rv s_, iv (1 : Int32), iv c0, .unset] [(.int (1 : Int32)), (.int (1 : Int32))])) (fun t k => st353.trans k) ?_
    refine own_go (T' := T353) (g' := (mkF m 124 #[rv a, rv s_, iv (1 : Int32), iv c0, .unset] [])) (fun t k => XS.icmpYes X353.here hx rfl (pc0 := 55) (pc' := 124) rfl (hb hby own_d_prog_43_method_1_code_55) rfl (flt (by decide : ¬ ((1 : Int32) < (1 : Int32)))).2.1 (by decide) (by decide) k) ?_
    refine own_go (T' := T353) (g' := (mkF m 125 #[rv a, rv s_, iv (1 : Int32), iv c0, .unset] [(.ref s_)])) (fun t k => XS.aloadN X353.here hx rfl (hb hby own_d_prog_43_method_1_code_124) rfl rfl k) ?_
    obtain ⟨T354, X354, e354, st354⟩ := getS2 X353 hx hZ hown (host := "") (Or.inl (hw _ (List.mem_of_getElem? (i := 89) rfl))) Via.refl E353q c346 (g := (mkF m 125 #[rv a, rv s_, iv (1 : Int32), iv c0, .unset] [(.ref s_)])) rfl (hb hby own_d_prog_43_method_1_code_125)
    refine own_go (T' := T354) (g' := (mkF m 128 #[rv a, rv s_, iv (1 : Int32), iv c0, .unset] [(.ref u8), (.ref s_)])) (st354) ?_
    obtain ⟨cq355, kq355, q355a, q355b, q355c⟩ := isOf hZ e354 c339
    obtain ⟨_, _, ⟨T355, L355, k355, n355⟩, -, X355, ⟨Lc355, hQ355, l355, y355, z355⟩, st355⟩ := X354.virtualBack hx (y := (⟨"java/lang/String", "getBytes", "(Ljava/nio/charset/Charset;)[B"⟩ : MethodName)) (z := (⟨"java/lang/String", "getBytes", "(Ljava/nio/charset/Charset;)[B"⟩ : MethodName)) hown (mvT hZ (hw _ (List.mem_of_getElem? (i := 91) rfl))) (mvT hZ (hw _ (List.mem_of_getElem? (i := 92) rfl))) (notFace_of_selects (args := #[]) (mvT hZ (hw _ (List.mem_of_getElem? (i := 94) rfl)))) (mvT hZ (hw _ (List.mem_of_getElem? (i := 94) rfl))) (mvT hZ (hw _ (List.mem_of_getElem? (i := 93) rfl))) (by decide) (backOf (W := 0) (own_rgb l Z a0 hw [] s_ b u8 kb (1 : Int32) cp [c0] h335 n0 hz335 c339 c340 c341 c342 c343 (Or.inl ⟨c0, rfl, rfl, q0⟩) c344 hcp c346 c347) hZ (hw _ (List.mem_of_getElem? (i := 95) rfl)) (hw _ (List.mem_of_getElem? (i := 10) rfl)) (by decide) (by decide)) q355a q355c (g := (mkF m 128 #[rv a, rv s_, iv (1 : Int32), iv c0, .unset] [(.ref u8), (.ref s_)])) rfl (by rw [hml]; rfl) (Steps.refl _) (argsL := [(.ref u8)]) (rest := []) (lenOf own_pd17 rfl) rfl (by show 2 * 0 + _ ≤ _; exact Nat.le_of_eq rfl) (hb hby own_d_prog_43_method_1_code_128) (fun _ _ => ⟨rfl, e354, (by decide : 2 + 1 ≤ _), (by decide : 20 + 3 ≤ _)⟩)
    dsimp only [Pt.U, Pt.locs, Pt.cells, Pt.slots] at X355 l355 y355 z355 st355 hQ355
    subst l355 y355 z355
    obtain ⟨b_355, k_355, rfl, N355q, ob_355, K_355, V_355⟩ := hQ355
    have N355 := Fr.app N353 N355q
    have nq356 : a ≠ b_355 := Nat.ne_of_lt (Nat.lt_of_lt_of_le c336.lt ob_355)
    have nq357 : s_ ≠ b_355 := Nat.ne_of_lt (Nat.lt_of_lt_of_le c339.lt ob_355)
    have nq358 : b ≠ b_355 := Nat.ne_of_lt (Nat.lt_of_lt_of_le c342.lt ob_355)
    have oo_355 : h0.size ≤ b_355 := Nat.le_trans K335.1 ob_355
    have c359 := c336.keep K_355
    have c361 := c337.keep K_355 nin0
    have c362 := c338.keep K_355 nin0
    have c365 := c339.keep K_355
    have c366 := c340.keep K_355 nin0
    have c367 := c341.keep K_355 nin0
    have c368 := c342.keep K_355 nin0
    have c369 := c343.keep K_355
    have c370 := own_sta_keep c344 K_355 own_ns0
    have c371 := own_sta_keep c345 K_355 own_ns0
    have c372 := own_sta_keep c346 K_355 own_ns0
    have c373 := own_sta_keep c347 K_355 own_ns0
    have hz355 : n0 ≤ T355.heap.size := Nat.le_trans hz335 K_355.1
    have hkq355 : kS ≤ T355.heap.size := Nat.le_trans hk335 K_355.1
    have K355 := Keep.trans K335 K_355 all0
    refine own_go (T' := T355) (g' := (mkF m 131 #[rv a, rv s_, iv (1 : Int32), iv c0, .unset] [(.ref b_355)])) (fun t k => st355.trans k) ?_
    refine own_go (T' := T355) (g' := (mkF m 132 #[rv a, rv s_, iv (1 : Int32), rv b_355, .unset] [])) (fun t k => XS.astoreN X355.here hx rfl (hb hby own_d_prog_43_method_1_code_131) rfl rfl (l' := #[rv a, rv s_, iv (1 : Int32), rv b_355, .unset]) rfl k) ?_
    refine own_go (T' := T355) (g' := (mkF m 133 #[rv a, rv s_, iv (1 : Int32), rv b_355, .unset] [(.ref b_355)])) (fun t k => XS.aloadN X355.here hx rfl (hb hby own_d_prog_43_method_1_code_132) rfl rfl k) ?_
    obtain ⟨cl374, Ar374, -, Sz374, Nn374, -, -⟩ := id V_355
    refine own_go (T' := T355) (g' := (mkF m 134 #[rv a, rv s_, iv (1 : Int32), rv b_355, .unset] [(.int (1 : Int32))])) (fun t k => X355.arraylength hx (by exact Ar374.1) (State.isArrayOf_alike hZ.alike Ar374.2.1) (g := (mkF m 133 #[rv a, rv s_, iv (1 : Int32), rv b_355, .unset] [(.ref b_355)])) rfl rfl (hb hby own_d_prog_43_method_1_code_133) _ (by rw [len_of Sz374 Nn374]; exact k)) ?_
    refine own_go (T' := T355) (g' := (mkF m 136 #[rv a, rv s_, iv (1 : Int32), rv b_355, .unset] [(.int (65535 : Int32)), (.int (1 : Int32))])) (fun t k => X355.ldcInt hx hown (mvT hZ (hw _ (List.mem_of_getElem? (i := 120) rfl))) (g := (mkF m 134 #[rv a, rv s_, iv (1 : Int32), rv b_355, .unset] [(.int (1 : Int32))])) rfl (hb hby own_d_prog_43_method_1_code_134) _ k) ?_
    refine own_go (T' := T355) (g' := (mkF m 154 #[rv a, rv s_, iv (1 : Int32), rv b_355, .unset] [])) (fun t k => XS.icmpYes X355.here hx rfl (pc0 := 136) (pc' := 154) rfl (hb hby own_d_prog_43_method_1_code_136) rfl (flt (by decide : ¬ ((65535 : Int32) < (1 : Int32)))).2.2.2 (by decide) (by decide) k) ?_
    refine own_go (T' := T355) (g' := (mkF m 155 #[rv a, rv s_, iv (1 : Int32), rv b_355, .unset] [(.ref a)])) (fun t k => XS.aloadN X355.here hx rfl (hb hby own_d_prog_43_method_1_code_154) rfl rfl k) ?_
    refine own_go (T' := T355) (g' := (mkF m 156 #[rv a, rv s_, iv (1 : Int32), rv b_355, .unset] [(.ref s_), (.ref a)])) (fun t k => XS.aloadN X355.here hx rfl (hb hby own_d_prog_43_method_1_code_155) rfl rfl k) ?_
    obtain ⟨T375, h375, X375, e375, W375, st375⟩ := putF X355 hx hZ hown (host := "") (Or.inl (hw _ (List.mem_of_getElem? (i := 121) rfl))) Via.refl rfl c361 c359 (Or.inr ⟨(hw _ (List.mem_of_getElem? (i := 122) rfl)), rfl, hnm⟩) (hw _ (List.mem_of_getElem? (i := 39) rfl)) (ty := (.object "java/lang/String")) (by decide) rfl rfl (g := (mkF m 156 #[rv a, rv s_, iv (1 : Int32), rv b_355, .unset] [(.ref s_), (.ref a)])) rfl rfl (hb hby own_d_prog_43_method_1_code_156)
    have hz375 : n0 ≤ h375.size := Nat.le_trans hz355 (Keep.of_wr W375).1
    have hkE375 : kS ≤ h375.size := Nat.le_trans hkq355 (Keep.of_wr W375).1
    have N375 := Fr.snoc X375 N355 g_a
    have K375 := K355.wr W375 (Or.inl (List.mem_of_getElem? (i := 0) rfl))
    have c376 := c359.wr W375
    have c377 := c361.same W375
    have c378 := c362.other W375 (Or.inr (slot_ne (Or.inr (hw _ (List.mem_of_getElem? (i := 124) rfl))) (Or.inr (hw _ (List.mem_of_getElem? (i := 122) rfl))) (by decide) (t := (.array .byte)) (t' := (.object "java/lang/String")) (by decide) (by decide)))
    have c379 := c365.wr W375
    have c380 := c366.other W375 (Or.inl n_sa)
    have c381 := c367.other W375 (Or.inl n_sa)
    have c382 := c368.other W375 n_ba
    have c383 := c369.wr W375
    have c384 := c370.wr W375
    have c385 := c371.wr W375
    have c386 := c372.wr W375
    have c387 := c373.wr W375
    have c388 := V_355.other W375 (Ne.symm nq356)
    refine own_go (T' := T375) (g' := (mkF m 159 #[rv a, rv s_, iv (1 : Int32), rv b_355, .unset] [])) (st375) ?_
    refine own_go (T' := T375) (g' := (mkF m 160 #[rv a, rv s_, iv (1 : Int32), rv b_355, .unset] [(.ref a)])) (fun t k => XS.aloadN X375.here hx rfl (hb hby own_d_prog_43_method_1_code_159) rfl rfl k) ?_
    refine own_go (T' := T375) (g' := (mkF m 161 #[rv a, rv s_, iv (1 : Int32), rv b_355, .unset] [(.ref b_355), (.ref a)])) (fun t k => XS.aloadN X375.here hx rfl (hb hby own_d_prog_43_method_1_code_160) rfl rfl k) ?_
    obtain ⟨T389, h389, X389, e389, W389, st389⟩ := putF X375 hx hZ hown (host := "") (Or.inl (hw _ (List.mem_of_getElem? (i := 123) rfl))) Via.refl e375 c378 c376 (Or.inr ⟨(hw _ (List.mem_of_getElem? (i := 124) rfl)), rfl, hnm⟩) (hw _ (List.mem_of_getElem? (i := 39) rfl)) (ty := (.array .byte)) (by decide) rfl rfl (g := (mkF m 161 #[rv a, rv s_, iv (1 : Int32), rv b_355, .unset] [(.ref b_355), (.ref a)])) rfl rfl (hb hby own_d_prog_43_method_1_code_161)
    have hz389 : n0 ≤ h389.size := Nat.le_trans hz375 (Keep.of_wr W389).1
    have hkE389 : kS ≤ h389.size := Nat.le_trans hkE375 (Keep.of_wr W389).1
    have N389 := Fr.snoc X389 N375 g_a
    have K389 := K375.wr W389 (Or.inl (List.mem_of_getElem? (i := 0) rfl))
    have c390 := c376.wr W389
    have c391 := c377.other W389 (Or.inr (slot_ne (Or.inr (hw _ (List.mem_of_getElem? (i := 122) rfl))) (Or.inr (hw _ (List.mem_of_getElem? (i := 124) rfl))) (by decide) (t := (.object "java/lang/String")) (t' := (.array .byte)) (by decide) (by decide)))
    have c392 := c378.same W389
    have c393 := c379.wr W389
    have c394 := c380.other W389 (Or.inl n_sa)
    have c395 := c381.other W389 (Or.inl n_sa)
    have c396 := c382.other W389 n_ba
    have c397 := c383.wr W389
    have c398 := c384.wr W389
    have c399 := c385.wr W389
    have c400 := c386.wr W389
    have c401 := c387.wr W389
    have c402 := c388.other W389 (Ne.symm nq356)
    refine own_go (T' := T389) (g' := (mkF m 164 #[rv a, rv s_, iv (1 : Int32), rv b_355, .unset] [])) (st389) ?_
    exact own_ret0W X389 hS (by rw [e389]; exact hkE389) hlk hx Bd.returns (hb hby own_d_prog_43_method_1_code_164) (by rw [e389]; exact ⟨rfl, N389, K389, c390, c391⟩) (by decide) (by decide)
  · have V403 : Arv Z h0 b kb .byte (2 : Int32) [(.int c0), (.int c1)] (.int (0 : Int32)) := V_b
    refine own_go (T' := s₁) (g' := (mkF m 1 #[rv a, rv s_, .unset, .unset, .unset] [(.ref a)])) (fun t k => XS.aloadN X0.here hx rfl (hb hby own_d_prog_43_method_1_code_0) rfl rfl k) ?_
    obtain ⟨T404, X404, e404, st404⟩ := initO X0 hx hZ hown (hw _ (List.mem_of_getElem? (i := 44) rfl)) (hw _ (List.mem_of_getElem? (i := 20) rfl)) (hw _ (List.mem_of_getElem? (i := 21) rfl)) e0 (g := (mkF m 1 #[rv a, rv s_, .unset, .unset, .unset] [(.ref a)])) rfl (by rw [hml]; rfl) rfl (hb hby own_d_prog_43_method_1_code_1) (by decide) (W := 0) (by show 2 * 0 + _ ≤ _; exact Nat.le_of_eq rfl) (by decide)
    refine own_go (T' := T404) (g' := (mkF m 4 #[rv a, rv s_, .unset, .unset, .unset] [])) (st404) ?_
    refine own_go (T' := T404) (g' := (mkF m 5 #[rv a, rv s_, .unset, .unset, .unset] [(.ref s_)])) (fun t k => XS.aloadN X404.here hx rfl (hb hby own_d_prog_43_method_1_code_4) rfl rfl k) ?_
    obtain ⟨aS, T405, h405, kS, X405, e405, E405, hS, hk405, hZ, hown, st405⟩ := ldcS (vm0 := s.vm) X404 hx hZ hown (hw _ (List.mem_of_getElem? (i := 45) rfl)) (by intro a ha; simp only [Bundle.stringAtoms, List.mem_cons, List.not_mem_nil, or_false] at ha; rcases ha with rfl | rfl | rfl | rfl | rfl | rfl | rfl; exact (hw _ (List.mem_of_getElem? (i := 10) rfl)); exact (hw _ (List.mem_of_getElem? (i := 9) rfl)); exact (hw _ (List.mem_of_getElem? (i := 27) rfl)); exact (hw _ (List.mem_of_getElem? (i := 37) rfl)); exact (hw _ (List.mem_of_getElem? (i := 35) rfl)); exact (hw _ (List.mem_of_getElem? (i := 46) rfl)); exact (hw _ (List.mem_of_getElem? (i := 47) rfl))) e404 ((State.WarmedH.refl s).since 0) (Nat.zero_le _) (g := (mkF m 5 #[rv a, rv s_, .unset, .unset, .unset] [(.ref s_)])) rfl (hb hby own_d_prog_43_method_1_code_5) (n := 16) (by decide) (by decide) (by decide) (by decide)
    have hz405 : n0 ≤ h405.size := Nat.le_trans Z0 E405.1
    have K405 := (Keep.refl h0 [a]).ext E405
    have c406 := E_a.ext E405
    have c407 := F_nm.ext E405
    have c408 := F_en.ext E405
    have c409 := E_s.ext E405
    have c410 := F_c.ext E405
    have c411 := F_v.ext E405
    have c412 := V403.ext E405
    have c413 := E_b.ext E405
    have c414 := S_cp.ext E405
    have c415 := S_fm.ext E405
    have c416 := S_u8.ext E405
    have c417 := S_in.ext E405
    refine own_go (T' := T405) (g' := (mkF m 7 #[rv a, rv s_, .unset, .unset, .unset] [(.ref aS), (.ref s_)])) (st405) ?_
    obtain ⟨_, _, ⟨T418, L418, k418, n418⟩, -, X418, ⟨Lc418, hQ418, l418, y418, z418⟩, st418⟩ := Jvm.LawKit.callS X405 hx (y := (⟨"java/util/Objects", "requireNonNull", "(Ljava/lang/Object;Ljava/lang/String;)Ljava/lang/Object;"⟩ : MethodName)) hown (mvT hZ (hw _ (List.mem_of_getElem? (i := 48) rfl))) (mvT hZ (hw _ (List.mem_of_getElem? (i := 49) rfl))) (mvT hZ (hw _ (List.mem_of_getElem? (i := 50) rfl))) (mvT hZ (hw _ (List.mem_of_getElem? (i := 51) rfl))) (by decide) (backOf (W := 0) (own_rrn l Z a0 hw [] s_ aS h405 n0 hz405) hZ (hw _ (List.mem_of_getElem? (i := 51) rfl)) (hw _ (List.mem_of_getElem? (i := 50) rfl)) (by decide) (by decide)) (g := (mkF m 7 #[rv a, rv s_, .unset, .unset, .unset] [(.ref aS), (.ref s_)])) rfl (by rw [hml]; rfl) (argsL := [(.ref s_), (.ref aS)]) (rest := []) (lenOf own_pd14 rfl) rfl (by show 2 * 0 + _ ≤ _; exact Nat.le_of_eq rfl) (hb hby own_d_prog_43_method_1_code_7) (fun _ _ => ⟨rfl, e405, (by decide : 2 + 0 ≤ _), (by decide : 20 + 0 ≤ _)⟩)
    dsimp only [Pt.U, Pt.locs, Pt.cells, Pt.slots] at X418 l418 y418 z418 st418 hQ418
    subst l418 y418 z418
    obtain ⟨rfl, rfl, e418⟩ := hQ418
    have E418q : T418.heap = h405 := e418
    have N418 := Fr.app N0 (Fr.nil n0)
    refine own_go (T' := T418) (g' := (mkF m 10 #[rv a, rv s_, .unset, .unset, .unset] [(.ref s_)])) (st418) ?_
    refine own_go (T' := T418) (g' := (mkF m 11 #[rv a, rv s_, .unset, .unset, .unset] [])) (fun t k => XS.pop X418.here hx rfl (hb hby own_d_prog_43_method_1_code_10) rfl rfl k) ?_
    refine own_go (T' := T418) (g' := (mkF m 12 #[rv a, rv s_, .unset, .unset, .unset] [(.ref s_)])) (fun t k => XS.aloadN X418.here hx rfl (hb hby own_d_prog_43_method_1_code_11) rfl rfl k) ?_
    obtain ⟨cq419, kq419, q419a, q419b, q419c⟩ := isOf hZ E418q c409
    obtain ⟨_, _, ⟨T419, L419, k419, n419⟩, -, X419, ⟨Lc419, hQ419, l419, y419, z419⟩, st419⟩ := X418.virtualBack hx (y := (⟨"java/lang/String", "isEmpty", "()Z"⟩ : MethodName)) (z := (⟨"java/lang/String", "isEmpty", "()Z"⟩ : MethodName)) hown (mvT hZ (hw _ (List.mem_of_getElem? (i := 52) rfl))) (mvT hZ (hw _ (List.mem_of_getElem? (i := 53) rfl))) (notFace_of_selects (args := #[]) (mvT hZ (hw _ (List.mem_of_getElem? (i := 55) rfl)))) (mvT hZ (hw _ (List.mem_of_getElem? (i := 55) rfl))) (mvT hZ (hw _ (List.mem_of_getElem? (i := 54) rfl))) (by decide) (backOf (W := 0) (own_rem l Z a0 hw [] s_ b kb (2 : Int32) [(.int c0), (.int c1)] h405 n0 hz405 c411 c412 (by decide)) hZ (hw _ (List.mem_of_getElem? (i := 56) rfl)) (hw _ (List.mem_of_getElem? (i := 10) rfl)) (by decide) (by decide)) q419a q419c (g := (mkF m 12 #[rv a, rv s_, .unset, .unset, .unset] [(.ref s_)])) rfl (by rw [hml]; rfl) (Steps.refl _) (argsL := []) (rest := []) (lenOf own_pd7 rfl) rfl (by show 2 * 0 + _ ≤ _; exact Nat.le_of_eq rfl) (hb hby own_d_prog_43_method_1_code_12) (fun _ _ => ⟨rfl, E418q, (by decide : 2 + 0 ≤ _), (by decide : 20 + 0 ≤ _)⟩)
    dsimp only [Pt.U, Pt.locs, Pt.cells, Pt.slots] at X419 l419 y419 z419 st419 hQ419
    subst l419 y419 z419
    obtain ⟨rfl, rfl, e419⟩ := hQ419
    have E419q : T419.heap = h405 := e419
    have N419 := Fr.app N418 (Fr.nil n0)
    refine own_go (T' := T419) (g' := (mkF m 15 #[rv a, rv s_, .unset, .unset, .unset] [(.int (0 : Int32))])) (fun t k => st419.trans k) ?_
    refine own_go (T' := T419) (g' := (mkF m 28 #[rv a, rv s_, .unset, .unset, .unset] [])) (fun t k => XS.ifYes X419.here hx rfl (pc0 := 15) (pc' := 28) rfl (hb hby own_d_prog_43_method_1_code_15) rfl ((if0 _ _).trans (teq (by decide : ((0 : Int32) = (0 : Int32)))).1) (by decide) (by decide) k) ?_
    refine own_go (T' := T419) (g' := (mkF m 29 #[rv a, rv s_, .unset, .unset, .unset] [(.ref s_)])) (fun t k => XS.aloadN X419.here hx rfl (hb hby own_d_prog_43_method_1_code_28) rfl rfl k) ?_
    refine own_go (T' := T419) (g' := (mkF m 30 #[rv a, rv s_, .unset, .unset, .unset] [(.int (0 : Int32)), (.ref s_)])) (fun t k => XS.iconst X419.here hx rfl (hb hby own_d_prog_43_method_1_code_29) k) ?_
    obtain ⟨cq420, kq420, q420a, q420b, q420c⟩ := isOf hZ E419q c409
    obtain ⟨_, _, ⟨T420, L420, k420, n420⟩, -, X420, ⟨Lc420, hQ420, l420, y420, z420⟩, st420⟩ := X419.virtualBack hx (y := (⟨"java/lang/String", "charAt", "(I)C"⟩ : MethodName)) (z := (⟨"java/lang/String", "charAt", "(I)C"⟩ : MethodName)) hown (mvT hZ (hw _ (List.mem_of_getElem? (i := 57) rfl))) (mvT hZ (hw _ (List.mem_of_getElem? (i := 58) rfl))) (notFace_of_selects (args := #[]) (mvT hZ (hw _ (List.mem_of_getElem? (i := 60) rfl)))) (mvT hZ (hw _ (List.mem_of_getElem? (i := 60) rfl))) (mvT hZ (hw _ (List.mem_of_getElem? (i := 59) rfl))) (by decide) (backOf (W := 0) (own_rca l Z a0 hw [] s_ b kb (0 : Int32) (2 : Int32) c0 cp [(.int c0), (.int c1)] fm h405 n0 hz405 c409 c410 c411 c412 (by decide) (by decide) rfl q0 c414 hcp c415 hfm) hZ (hw _ (List.mem_of_getElem? (i := 61) rfl)) (hw _ (List.mem_of_getElem? (i := 10) rfl)) (by decide) (by decide)) q420a q420c (g := (mkF m 30 #[rv a, rv s_, .unset, .unset, .unset] [(.int (0 : Int32)), (.ref s_)])) rfl (by rw [hml]; rfl) (Steps.refl _) (argsL := [(.int (0 : Int32))]) (rest := []) (lenOf own_pd15 rfl) rfl (by show 2 * 0 + _ ≤ _; exact Nat.le_of_eq rfl) (hb hby own_d_prog_43_method_1_code_30) (fun _ _ => ⟨rfl, E419q, (by decide : 2 + 0 ≤ _), (by decide : 20 + 0 ≤ _)⟩)
    dsimp only [Pt.U, Pt.locs, Pt.cells, Pt.slots] at X420 l420 y420 z420 st420 hQ420
    subst l420 y420 z420
    obtain ⟨rfl, rfl, e420⟩ := hQ420
    have E420q : T420.heap = h405 := e420
    have N420 := Fr.app N419 (Fr.nil n0)
    refine own_go (T' := T420) (g' := (mkF m 33 #[rv a, rv s_, .unset, .unset, .unset] [(.int c0)])) (fun t k => st420.trans k) ?_
    refine own_go (T' := T420) (g' := (mkF m 35 #[rv a, rv s_, .unset, .unset, .unset] [(.int (36 : Int32)), (.int c0)])) (fun t k => XS.bipush X420.here hx rfl (hb hby own_d_prog_43_method_1_code_33) k) ?_
    refine own_go (T' := T420) (g' := (mkF m 48 #[rv a, rv s_, .unset, .unset, .unset] [])) (fun t k => XS.icmpYes X420.here hx rfl (pc0 := 35) (pc' := 48) rfl (hb hby own_d_prog_43_method_1_code_35) rfl (feq (own_cne q0 (by decide) : ¬ (c0 = (36 : Int32)))).2 (by decide) (by decide) k) ?_
    refine own_go (T' := T420) (g' := (mkF m 49 #[rv a, rv s_, .unset, .unset, .unset] [(.int (0 : Int32))])) (fun t k => XS.iconst X420.here hx rfl (hb hby own_d_prog_43_method_1_code_48) k) ?_
    refine own_go (T' := T420) (g' := (mkF m 50 #[rv a, rv s_, iv (0 : Int32), .unset, .unset] [])) (fun t k => XS.istoreN X420.here hx rfl (hb hby own_d_prog_43_method_1_code_49) rfl (l' := #[rv a, rv s_, iv (0 : Int32), .unset, .unset]) rfl k) ?_
    refine own_go (T' := T420) (g' := (mkF m 51 #[rv a, rv s_, iv (0 : Int32), .unset, .unset] [(.int (0 : Int32))])) (fun t k => XS.iloadN X420.here hx rfl (hb hby own_d_prog_43_method_1_code_50) rfl k) ?_
    refine own_go (T' := T420) (g' := (mkF m 52 #[rv a, rv s_, iv (0 : Int32), .unset, .unset] [(.ref s_), (.int (0 : Int32))])) (fun t k => XS.aloadN X420.here hx rfl (hb hby own_d_prog_43_method_1_code_51) rfl rfl k) ?_
    obtain ⟨cq421, kq421, q421a, q421b, q421c⟩ := isOf hZ E420q c409
    obtain ⟨_, _, ⟨T421, L421, k421, n421⟩, -, X421, ⟨Lc421, hQ421, l421, y421, z421⟩, st421⟩ := X420.virtualBack hx (y := (⟨"java/lang/String", "length", "()I"⟩ : MethodName)) (z := (⟨"java/lang/String", "length", "()I"⟩ : MethodName)) hown (mvT hZ (hw _ (List.mem_of_getElem? (i := 79) rfl))) (mvT hZ (hw _ (List.mem_of_getElem? (i := 80) rfl))) (notFace_of_selects (args := #[]) (mvT hZ (hw _ (List.mem_of_getElem? (i := 82) rfl)))) (mvT hZ (hw _ (List.mem_of_getElem? (i := 82) rfl))) (mvT hZ (hw _ (List.mem_of_getElem? (i := 81) rfl))) (by decide) (backOf (W := 1) (own_rln l Z a0 hw [] s_ b kb (2 : Int32) cp [(.int c0), (.int c1)] h405 n0 hz405 c409 c410 c411 c412 c414 hcp (by decide)) hZ (hw _ (List.mem_of_getElem? (i := 83) rfl)) (hw _ (List.mem_of_getElem? (i := 10) rfl)) (by decide) (by decide)) q421a q421c (g := (mkF m 52 #[rv a, rv s_, iv (0 : Int32), .unset, .unset] [(.ref s_), (.int (0 : Int32))])) rfl (by rw [hml]; rfl) (Steps.refl _) (argsL := []) (rest := [(.int (0 : Int32))]) (lenOf own_pd16 rfl) rfl (by show 2 * 0 + _ ≤ _; exact Nat.le_of_eq rfl) (hb hby own_d_prog_43_method_1_code_52) (fun _ _ => ⟨rfl, E420q, (by decide : 2 + 0 ≤ _), (by decide : 20 + 0 ≤ _)⟩)
    dsimp only [Pt.U, Pt.locs, Pt.cells, Pt.slots] at X421 l421 y421 z421 st421 hQ421
    subst l421 y421 z421
    obtain ⟨rfl, rfl, e421⟩ := hQ421
    have E421q : T421.heap = h405 := e421
    have N421 := Fr.app N420 (Fr.nil n0)
    refine own_go (T' := T421) (g' := (mkF m 55 #[rv a, rv s_, iv (0 : Int32), .unset, .unset] [(.int (2 : Int32)), (.int (0 : Int32))])) (fun t k => st421.trans k) ?_
    refine own_go (T' := T421) (g' := (mkF m 58 #[rv a, rv s_, iv (0 : Int32), .unset, .unset] [])) (fun t k => XS.icmpNo X421.here hx rfl (hb hby own_d_prog_43_method_1_code_55) rfl (tlt (by decide : ((0 : Int32) < (2 : Int32)))).2.1 k) ?_
    refine own_go (T' := T421) (g' := (mkF m 59 #[rv a, rv s_, iv (0 : Int32), .unset, .unset] [(.ref s_)])) (fun t k => XS.aloadN X421.here hx rfl (hb hby own_d_prog_43_method_1_code_58) rfl rfl k) ?_
    refine own_go (T' := T421) (g' := (mkF m 60 #[rv a, rv s_, iv (0 : Int32), .unset, .unset] [(.int (0 : Int32)), (.ref s_)])) (fun t k => XS.iloadN X421.here hx rfl (hb hby own_d_prog_43_method_1_code_59) rfl k) ?_
    obtain ⟨cq422, kq422, q422a, q422b, q422c⟩ := isOf hZ E421q c409
    obtain ⟨_, _, ⟨T422, L422, k422, n422⟩, -, X422, ⟨Lc422, hQ422, l422, y422, z422⟩, st422⟩ := X421.virtualBack hx (y := (⟨"java/lang/String", "charAt", "(I)C"⟩ : MethodName)) (z := (⟨"java/lang/String", "charAt", "(I)C"⟩ : MethodName)) hown (mvT hZ (hw _ (List.mem_of_getElem? (i := 57) rfl))) (mvT hZ (hw _ (List.mem_of_getElem? (i := 58) rfl))) (notFace_of_selects (args := #[]) (mvT hZ (hw _ (List.mem_of_getElem? (i := 60) rfl)))) (mvT hZ (hw _ (List.mem_of_getElem? (i := 60) rfl))) (mvT hZ (hw _ (List.mem_of_getElem? (i := 59) rfl))) (by decide) (backOf (W := 0) (own_rca l Z a0 hw [] s_ b kb (0 : Int32) (2 : Int32) c0 cp [(.int c0), (.int c1)] fm h405 n0 hz405 c409 c410 c411 c412 (by decide) (by decide) rfl q0 c414 hcp c415 hfm) hZ (hw _ (List.mem_of_getElem? (i := 61) rfl)) (hw _ (List.mem_of_getElem? (i := 10) rfl)) (by decide) (by decide)) q422a q422c (g := (mkF m 60 #[rv a, rv s_, iv (0 : Int32), .unset, .unset] [(.int (0 : Int32)), (.ref s_)])) rfl (by rw [hml]; rfl) (Steps.refl _) (argsL := [(.int (0 : Int32))]) (rest := []) (lenOf own_pd15 rfl) rfl (by show 2 * 0 + _ ≤ _; exact Nat.le_of_eq rfl) (hb hby own_d_prog_43_method_1_code_60) (fun _ _ => ⟨rfl, E421q, (by decide : 2 + 0 ≤ _), (by decide : 20 + 0 ≤ _)⟩)
    dsimp only [Pt.U, Pt.locs, Pt.cells, Pt.slots] at X422 l422 y422 z422 st422 hQ422
    subst l422 y422 z422
    obtain ⟨rfl, rfl, e422⟩ := hQ422
    have E422q : T422.heap = h405 := e422
    have N422 := Fr.app N421 (Fr.nil n0)
    refine own_go (T' := T422) (g' := (mkF m 63 #[rv a, rv s_, iv (0 : Int32), .unset, .unset] [(.int c0)])) (fun t k => st422.trans k) ?_
    refine own_go (T' := T422) (g' := (mkF m 64 #[rv a, rv s_, iv (0 : Int32), iv c0, .unset] [])) (fun t k => XS.istoreN X422.here hx rfl (hb hby own_d_prog_43_method_1_code_63) rfl (l' := #[rv a, rv s_, iv (0 : Int32), iv c0, .unset]) rfl k) ?_
    refine own_go (T' := T422) (g' := (mkF m 65 #[rv a, rv s_, iv (0 : Int32), iv c0, .unset] [(.int c0)])) (fun t k => XS.iloadN X422.here hx rfl (hb hby own_d_prog_43_method_1_code_64) rfl k) ?_
    refine own_go (T' := T422) (g' := (mkF m 67 #[rv a, rv s_, iv (0 : Int32), iv c0, .unset] [(.int (31 : Int32)), (.int c0)])) (fun t k => XS.bipush X422.here hx rfl (hb hby own_d_prog_43_method_1_code_65) k) ?_
    refine own_go (T' := T422) (g' := (mkF m 70 #[rv a, rv s_, iv (0 : Int32), iv c0, .unset] [])) (fun t k => XS.icmpNo X422.here hx rfl (hb hby own_d_prog_43_method_1_code_67) rfl (tlt (own_c31 q0 : ((31 : Int32) < c0))).2.2.2 k) ?_
    refine own_go (T' := T422) (g' := (mkF m 71 #[rv a, rv s_, iv (0 : Int32), iv c0, .unset] [(.int c0)])) (fun t k => XS.iloadN X422.here hx rfl (hb hby own_d_prog_43_method_1_code_70) rfl k) ?_
    refine own_go (T' := T422) (g' := (mkF m 73 #[rv a, rv s_, iv (0 : Int32), iv c0, .unset] [(.int (127 : Int32)), (.int c0)])) (fun t k => XS.bipush X422.here hx rfl (hb hby own_d_prog_43_method_1_code_71) k) ?_
    refine own_go (T' := T422) (g' := (mkF m 76 #[rv a, rv s_, iv (0 : Int32), iv c0, .unset] [])) (fun t k => XS.icmpNo X422.here hx rfl (hb hby own_d_prog_43_method_1_code_73) rfl (tlt (own_c127 q0 : (c0 < (127 : Int32)))).2.1 k) ?_
    refine own_go (T' := T422) (g' := (mkF m 77 #[rv a, rv s_, iv (0 : Int32), iv c0, .unset] [(.int c0)])) (fun t k => XS.iloadN X422.here hx rfl (hb hby own_d_prog_43_method_1_code_76) rfl k) ?_
    refine own_go (T' := T422) (g' := (mkF m 79 #[rv a, rv s_, iv (0 : Int32), iv c0, .unset] [(.int (43 : Int32)), (.int c0)])) (fun t k => XS.bipush X422.here hx rfl (hb hby own_d_prog_43_method_1_code_77) k) ?_
    refine own_go (T' := T422) (g' := (mkF m 82 #[rv a, rv s_, iv (0 : Int32), iv c0, .unset] [])) (fun t k => XS.icmpNo X422.here hx rfl (hb hby own_d_prog_43_method_1_code_79) rfl (feq (own_cne q0 (by decide) : ¬ (c0 = (43 : Int32)))).1 k) ?_
    refine own_go (T' := T422) (g' := (mkF m 83 #[rv a, rv s_, iv (0 : Int32), iv c0, .unset] [(.int c0)])) (fun t k => XS.iloadN X422.here hx rfl (hb hby own_d_prog_43_method_1_code_82) rfl k) ?_
    refine own_go (T' := T422) (g' := (mkF m 85 #[rv a, rv s_, iv (0 : Int32), iv c0, .unset] [(.int (35 : Int32)), (.int c0)])) (fun t k => XS.bipush X422.here hx rfl (hb hby own_d_prog_43_method_1_code_83) k) ?_
    refine own_go (T' := T422) (g' := (mkF m 88 #[rv a, rv s_, iv (0 : Int32), iv c0, .unset] [])) (fun t k => XS.icmpNo X422.here hx rfl (hb hby own_d_prog_43_method_1_code_85) rfl (feq (own_cne q0 (by decide) : ¬ (c0 = (35 : Int32)))).1 k) ?_
    refine own_go (T' := T422) (g' := (mkF m 89 #[rv a, rv s_, iv (0 : Int32), iv c0, .unset] [(.int c0)])) (fun t k => XS.iloadN X422.here hx rfl (hb hby own_d_prog_43_method_1_code_88) rfl k) ?_
    refine own_go (T' := T422) (g' := (mkF m 91 #[rv a, rv s_, iv (0 : Int32), iv c0, .unset] [(.int (44 : Int32)), (.int c0)])) (fun t k => XS.bipush X422.here hx rfl (hb hby own_d_prog_43_method_1_code_89) k) ?_
    refine own_go (T' := T422) (g' := (mkF m 94 #[rv a, rv s_, iv (0 : Int32), iv c0, .unset] [])) (fun t k => XS.icmpNo X422.here hx rfl (hb hby own_d_prog_43_method_1_code_91) rfl (feq (own_cne q0 (by decide) : ¬ (c0 = (44 : Int32)))).1 k) ?_
    refine own_go (T' := T422) (g' := (mkF m 97 #[rv a, rv s_, iv (1 : Int32), iv c0, .unset] [])) (fun t k => XS.iinc X422.here hx rfl (hb hby own_d_prog_43_method_1_code_94) rfl (l' := #[rv a, rv s_, iv (1 : Int32), iv c0, .unset]) rfl k) ?_
    refine own_go (T' := T422) (g' := (mkF m 50 #[rv a, rv s_, iv (1 : Int32), iv c0, .unset] [])) (fun t k => XS.goto X422.here hx rfl (pc0 := 97) (pc' := 50) rfl (hb hby own_d_prog_43_method_1_code_97) (by decide) (by decide) k) ?_
    refine own_go (T' := T422) (g' := (mkF m 51 #[rv a, rv s_, iv (1 : Int32), iv c0, .unset] [(.int (1 : Int32))])) (fun t k => XS.iloadN X422.here hx rfl (hb hby own_d_prog_43_method_1_code_50) rfl k) ?_
    refine own_go (T' := T422) (g' := (mkF m 52 #[rv a, rv s_, iv (1 : Int32), iv c0, .unset] [(.ref s_), (.int (1 : Int32))])) (fun t k => XS.aloadN X422.here hx rfl (hb hby own_d_prog_43_method_1_code_51) rfl rfl k) ?_
    obtain ⟨cq423, kq423, q423a, q423b, q423c⟩ := isOf hZ E422q c409
    obtain ⟨_, _, ⟨T423, L423, k423, n423⟩, -, X423, ⟨Lc423, hQ423, l423, y423, z423⟩, st423⟩ := X422.virtualBack hx (y := (⟨"java/lang/String", "length", "()I"⟩ : MethodName)) (z := (⟨"java/lang/String", "length", "()I"⟩ : MethodName)) hown (mvT hZ (hw _ (List.mem_of_getElem? (i := 79) rfl))) (mvT hZ (hw _ (List.mem_of_getElem? (i := 80) rfl))) (notFace_of_selects (args := #[]) (mvT hZ (hw _ (List.mem_of_getElem? (i := 82) rfl)))) (mvT hZ (hw _ (List.mem_of_getElem? (i := 82) rfl))) (mvT hZ (hw _ (List.mem_of_getElem? (i := 81) rfl))) (by decide) (backOf (W := 1) (own_rln l Z a0 hw [] s_ b kb (2 : Int32) cp [(.int c0), (.int c1)] h405 n0 hz405 c409 c410 c411 c412 c414 hcp (by decide)) hZ (hw _ (List.mem_of_getElem? (i := 83) rfl)) (hw _ (List.mem_of_getElem? (i := 10) rfl)) (by decide) (by decide)) q423a q423c (g := (mkF m 52 #[rv a, rv s_, iv (1 : Int32), iv c0, .unset] [(.ref s_), (.int (1 : Int32))])) rfl (by rw [hml]; rfl) (Steps.refl _) (argsL := []) (rest := [(.int (1 : Int32))]) (lenOf own_pd16 rfl) rfl (by show 2 * 0 + _ ≤ _; exact Nat.le_of_eq rfl) (hb hby own_d_prog_43_method_1_code_52) (fun _ _ => ⟨rfl, E422q, (by decide : 2 + 0 ≤ _), (by decide : 20 + 0 ≤ _)⟩)
    dsimp only [Pt.U, Pt.locs, Pt.cells, Pt.slots] at X423 l423 y423 z423 st423 hQ423
    subst l423 y423 z423
    obtain ⟨rfl, rfl, e423⟩ := hQ423
    have E423q : T423.heap = h405 := e423
    have N423 := Fr.app N422 (Fr.nil n0)
    refine own_go (T' := T423) (g' := (mkF m 55 #[rv a, rv s_, iv (1 : Int32), iv c0, .unset] [(.int (2 : Int32)), (.int (1 : Int32))])) (fun t k => st423.trans k) ?_
    refine own_go (T' := T423) (g' := (mkF m 58 #[rv a, rv s_, iv (1 : Int32), iv c0, .unset] [])) (fun t k => XS.icmpNo X423.here hx rfl (hb hby own_d_prog_43_method_1_code_55) rfl (tlt (by decide : ((1 : Int32) < (2 : Int32)))).2.1 k) ?_
    refine own_go (T' := T423) (g' := (mkF m 59 #[rv a, rv s_, iv (1 : Int32), iv c0, .unset] [(.ref s_)])) (fun t k => XS.aloadN X423.here hx rfl (hb hby own_d_prog_43_method_1_code_58) rfl rfl k) ?_
    refine own_go (T' := T423) (g' := (mkF m 60 #[rv a, rv s_, iv (1 : Int32), iv c0, .unset] [(.int (1 : Int32)), (.ref s_)])) (fun t k => XS.iloadN X423.here hx rfl (hb hby own_d_prog_43_method_1_code_59) rfl k) ?_
    obtain ⟨cq424, kq424, q424a, q424b, q424c⟩ := isOf hZ E423q c409
    obtain ⟨_, _, ⟨T424, L424, k424, n424⟩, -, X424, ⟨Lc424, hQ424, l424, y424, z424⟩, st424⟩ := X423.virtualBack hx (y := (⟨"java/lang/String", "charAt", "(I)C"⟩ : MethodName)) (z := (⟨"java/lang/String", "charAt", "(I)C"⟩ : MethodName)) hown (mvT hZ (hw _ (List.mem_of_getElem? (i := 57) rfl))) (mvT hZ (hw _ (List.mem_of_getElem? (i := 58) rfl))) (notFace_of_selects (args := #[]) (mvT hZ (hw _ (List.mem_of_getElem? (i := 60) rfl)))) (mvT hZ (hw _ (List.mem_of_getElem? (i := 60) rfl))) (mvT hZ (hw _ (List.mem_of_getElem? (i := 59) rfl))) (by decide) (backOf (W := 0) (own_rca l Z a0 hw [] s_ b kb (1 : Int32) (2 : Int32) c1 cp [(.int c0), (.int c1)] fm h405 n0 hz405 c409 c410 c411 c412 (by decide) (by decide) rfl q1 c414 hcp c415 hfm) hZ (hw _ (List.mem_of_getElem? (i := 61) rfl)) (hw _ (List.mem_of_getElem? (i := 10) rfl)) (by decide) (by decide)) q424a q424c (g := (mkF m 60 #[rv a, rv s_, iv (1 : Int32), iv c0, .unset] [(.int (1 : Int32)), (.ref s_)])) rfl (by rw [hml]; rfl) (Steps.refl _) (argsL := [(.int (1 : Int32))]) (rest := []) (lenOf own_pd15 rfl) rfl (by show 2 * 0 + _ ≤ _; exact Nat.le_of_eq rfl) (hb hby own_d_prog_43_method_1_code_60) (fun _ _ => ⟨rfl, E423q, (by decide : 2 + 0 ≤ _), (by decide : 20 + 0 ≤ _)⟩)
    dsimp only [Pt.U, Pt.locs, Pt.cells, Pt.slots] at X424 l424 y424 z424 st424 hQ424
    subst l424 y424 z424
    obtain ⟨rfl, rfl, e424⟩ := hQ424
    have E424q : T424.heap = h405 := e424
    have N424 := Fr.app N423 (Fr.nil n0)
    refine own_go (T' := T424) (g' := (mkF m 63 #[rv a, rv s_, iv (1 : Int32), iv c0, .unset] [(.int c1)])) (fun t k => st424.trans k) ?_
    refine own_go (T' := T424) (g' := (mkF m 64 #[rv a, rv s_, iv (1 : Int32), iv c1, .unset] [])) (fun t k => XS.istoreN X424.here hx rfl (hb hby own_d_prog_43_method_1_code_63) rfl (l' := #[rv a, rv s_, iv (1 : Int32), iv c1, .unset]) rfl k) ?_
    refine own_go (T' := T424) (g' := (mkF m 65 #[rv a, rv s_, iv (1 : Int32), iv c1, .unset] [(.int c1)])) (fun t k => XS.iloadN X424.here hx rfl (hb hby own_d_prog_43_method_1_code_64) rfl k) ?_
    refine own_go (T' := T424) (g' := (mkF m 67 #[rv a, rv s_, iv (1 : Int32), iv c1, .unset] [(.int (31 : Int32)), (.int c1)])) (fun t k => XS.bipush X424.here hx rfl (hb hby own_d_prog_43_method_1_code_65) k) ?_
    refine own_go (T' := T424) (g' := (mkF m 70 #[rv a, rv s_, iv (1 : Int32), iv c1, .unset] [])) (fun t k => XS.icmpNo X424.here hx rfl (hb hby own_d_prog_43_method_1_code_67) rfl (tlt (own_c31 q1 : ((31 : Int32) < c1))).2.2.2 k) ?_
    refine own_go (T' := T424) (g' := (mkF m 71 #[rv a, rv s_, iv (1 : Int32), iv c1, .unset] [(.int c1)])) (fun t k => XS.iloadN X424.here hx rfl (hb hby own_d_prog_43_method_1_code_70) rfl k) ?_
    refine own_go (T' := T424) (g' := (mkF m 73 #[rv a, rv s_, iv (1 : Int32), iv c1, .unset] [(.int (127 : Int32)), (.int c1)])) (fun t k => XS.bipush X424.here hx rfl (hb hby own_d_prog_43_method_1_code_71) k) ?_
    refine own_go (T' := T424) (g' := (mkF m 76 #[rv a, rv s_, iv (1 : Int32), iv c1, .unset] [])) (fun t k => XS.icmpNo X424.here hx rfl (hb hby own_d_prog_43_method_1_code_73) rfl (tlt (own_c127 q1 : (c1 < (127 : Int32)))).2.1 k) ?_
    refine own_go (T' := T424) (g' := (mkF m 77 #[rv a, rv s_, iv (1 : Int32), iv c1, .unset] [(.int c1)])) (fun t k => XS.iloadN X424.here hx rfl (hb hby own_d_prog_43_method_1_code_76) rfl k) ?_
    refine own_go (T' := T424) (g' := (mkF m 79 #[rv a, rv s_, iv (1 : Int32), iv c1, .unset] [(.int (43 : Int32)), (.int c1)])) (fun t k => XS.bipush X424.here hx rfl (hb hby own_d_prog_43_method_1_code_77) k) ?_
    refine own_go (T' := T424) (g' := (mkF m 82 #[rv a, rv s_, iv (1 : Int32), iv c1, .unset] [])) (fun t k => XS.icmpNo X424.here hx rfl (hb hby own_d_prog_43_method_1_code_79) rfl (feq (own_cne q1 (by decide) : ¬ (c1 = (43 : Int32)))).1 k) ?_
    refine own_go (T' := T424) (g' := (mkF m 83 #[rv a, rv s_, iv (1 : Int32), iv c1, .unset] [(.int c1)])) (fun t k => XS.iloadN X424.here hx rfl (hb hby own_d_prog_43_method_1_code_82) rfl k) ?_
    refine own_go (T' := T424) (g' := (mkF m 85 #[rv a, rv s_, iv (1 : Int32), iv c1, .unset] [(.int (35 : Int32)), (.int c1)])) (fun t k => XS.bipush X424.here hx rfl (hb hby own_d_prog_43_method_1_code_83) k) ?_
    refine own_go (T' := T424) (g' := (mkF m 88 #[rv a, rv s_, iv (1 : Int32), iv c1, .unset] [])) (fun t k => XS.icmpNo X424.here hx rfl (hb hby own_d_prog_43_method_1_code_85) rfl (feq (own_cne q1 (by decide) : ¬ (c1 = (35 : Int32)))).1 k) ?_
    refine own_go (T' := T424) (g' := (mkF m 89 #[rv a, rv s_, iv (1 : Int32), iv c1, .unset] [(.int c1)])) (fun t k => XS.iloadN X424.here hx rfl (hb hby own_d_prog_43_method_1_code_88) rfl k) ?_
    refine own_go (T' := T424) (g' := (mkF m 91 #[rv a, rv s_, iv (1 : Int32), iv c1, .unset] [(.int (44 : Int32)), (.int c1)])) (fun t k => XS.bipush X424.here hx rfl (hb hby own_d_prog_43_method_1_code_89) k) ?_
    refine own_go (T' := T424) (g' := (mkF m 94 #[rv a, rv s_, iv (1 : Int32), iv c1, .unset] [])) (fun t k => XS.icmpNo X424.here hx rfl (hb hby own_d_prog_43_method_1_code_91) rfl (feq (own_cne q1 (by decide) : ¬ (c1 = (44 : Int32)))).1 k) ?_
    refine own_go (T' := T424) (g' := (mkF m 97 #[rv a, rv s_, iv (2 : Int32), iv c1, .unset] [])) (fun t k => XS.iinc X424.here hx rfl (hb hby own_d_prog_43_method_1_code_94) rfl (l' := #[rv a, rv s_, iv (2 : Int32), iv c1, .unset]) rfl k) ?_
    refine own_go (T' := T424) (g' := (mkF m 50 #[rv a, rv s_, iv (2 : Int32), iv c1, .unset] [])) (fun t k => XS.goto X424.here hx rfl (pc0 := 97) (pc' := 50) rfl (hb hby own_d_prog_43_method_1_code_97) (by decide) (by decide) k) ?_
    refine own_go (T' := T424) (g' := (mkF m 51 #[rv a, rv s_, iv (2 : Int32), iv c1, .unset] [(.int (2 : Int32))])) (fun t k => XS.iloadN X424.here hx rfl (hb hby own_d_prog_43_method_1_code_50) rfl k) ?_
    refine own_go (T' := T424) (g' := (mkF m 52 #[rv a, rv s_, iv (2 : Int32), iv c1, .unset] [(.ref s_), (.int (2 : Int32))])) (fun t k => XS.aloadN X424.here hx rfl (hb hby own_d_prog_43_method_1_code_51) rfl rfl k) ?_
    obtain ⟨cq425, kq425, q425a, q425b, q425c⟩ := isOf hZ E424q c409
    obtain ⟨_, _, ⟨T425, L425, k425, n425⟩, -, X425, ⟨Lc425, hQ425, l425, y425, z425⟩, st425⟩ := X424.virtualBack hx (y := (⟨"java/lang/String", "length", "()I"⟩ : MethodName)) (z := (⟨"java/lang/String", "length", "()I"⟩ : MethodName)) hown (mvT hZ (hw _ (List.mem_of_getElem? (i := 79) rfl))) (mvT hZ (hw _ (List.mem_of_getElem? (i := 80) rfl))) (notFace_of_selects (args := #[]) (mvT hZ (hw _ (List.mem_of_getElem? (i := 82) rfl)))) (mvT hZ (hw _ (List.mem_of_getElem? (i := 82) rfl))) (mvT hZ (hw _ (List.mem_of_getElem? (i := 81) rfl))) (by decide) (backOf (W := 1) (own_rln l Z a0 hw [] s_ b kb (2 : Int32) cp [(.int c0), (.int c1)] h405 n0 hz405 c409 c410 c411 c412 c414 hcp (by decide)) hZ (hw _ (List.mem_of_getElem? (i := 83) rfl)) (hw _ (List.mem_of_getElem? (i := 10) rfl)) (by decide) (by decide)) q425a q425c (g := (mkF m 52 #[rv a, rv s_, iv (2 : Int32), iv c1, .unset] [(.ref s_), (.int (2 : Int32))])) rfl (by rw [hml]; rfl) (Steps.refl _) (argsL := []) (rest := [(.int (2 : Int32))]) (lenOf own_pd16 rfl) rfl (by show 2 * 0 + _ ≤ _; exact Nat.le_of_eq rfl) (hb hby own_d_prog_43_method_1_code_52) (fun _ _ => ⟨rfl, E424q, (by decide : 2 + 0 ≤ _), (by decide : 20 + 0 ≤ _)⟩)
    dsimp only [Pt.U, Pt.locs, Pt.cells, Pt.slots] at X425 l425 y425 z425 st425 hQ425
    subst l425 y425 z425
    obtain ⟨rfl, rfl, e425⟩ := hQ425
    have E425q : T425.heap = h405 := e425
    have N425 := Fr.app N424 (Fr.nil n0)
    refine own_go (T' := T425) (g' := (mkF m 55 #[rv a, rv s_, iv (2 : Int32), iv c1, .unset] [(.int (2 : Int32)), (.int (2 : Int32))])) (fun t k => st425.trans k) ?_
    refine own_go (T' := T425) (g' := (mkF m 124 #[rv a, rv s_, iv (2 : Int32), iv c1, .unset] [])) (fun t k => XS.icmpYes X425.here hx rfl (pc0 := 55) (pc' := 124) rfl (hb hby own_d_prog_43_method_1_code_55) rfl (flt (by decide : ¬ ((2 : Int32) < (2 : Int32)))).2.1 (by decide) (by decide) k) ?_
    refine own_go (T' := T425) (g' := (mkF m 125 #[rv a, rv s_, iv (2 : Int32), iv c1, .unset] [(.ref s_)])) (fun t k => XS.aloadN X425.here hx rfl (hb hby own_d_prog_43_method_1_code_124) rfl rfl k) ?_
    obtain ⟨T426, X426, e426, st426⟩ := getS2 X425 hx hZ hown (host := "") (Or.inl (hw _ (List.mem_of_getElem? (i := 89) rfl))) Via.refl E425q c416 (g := (mkF m 125 #[rv a, rv s_, iv (2 : Int32), iv c1, .unset] [(.ref s_)])) rfl (hb hby own_d_prog_43_method_1_code_125)
    refine own_go (T' := T426) (g' := (mkF m 128 #[rv a, rv s_, iv (2 : Int32), iv c1, .unset] [(.ref u8), (.ref s_)])) (st426) ?_
    obtain ⟨cq427, kq427, q427a, q427b, q427c⟩ := isOf hZ e426 c409
    obtain ⟨_, _, ⟨T427, L427, k427, n427⟩, -, X427, ⟨Lc427, hQ427, l427, y427, z427⟩, st427⟩ := X426.virtualBack hx (y := (⟨"java/lang/String", "getBytes", "(Ljava/nio/charset/Charset;)[B"⟩ : MethodName)) (z := (⟨"java/lang/String", "getBytes", "(Ljava/nio/charset/Charset;)[B"⟩ : MethodName)) hown (mvT hZ (hw _ (List.mem_of_getElem? (i := 91) rfl))) (mvT hZ (hw _ (List.mem_of_getElem? (i := 92) rfl))) (notFace_of_selects (args := #[]) (mvT hZ (hw _ (List.mem_of_getElem? (i := 94) rfl)))) (mvT hZ (hw _ (List.mem_of_getElem? (i := 94) rfl))) (mvT hZ (hw _ (List.mem_of_getElem? (i := 93) rfl))) (by decide) (backOf (W := 0) (own_rgb l Z a0 hw [] s_ b u8 kb (2 : Int32) cp [c0, c1] h405 n0 hz405 c409 c410 c411 c412 c413 (Or.inr (Or.inl ⟨c0, c1, rfl, rfl, q0, q1⟩)) c414 hcp c416 c417) hZ (hw _ (List.mem_of_getElem? (i := 95) rfl)) (hw _ (List.mem_of_getElem? (i := 10) rfl)) (by decide) (by decide)) q427a q427c (g := (mkF m 128 #[rv a, rv s_, iv (2 : Int32), iv c1, .unset] [(.ref u8), (.ref s_)])) rfl (by rw [hml]; rfl) (Steps.refl _) (argsL := [(.ref u8)]) (rest := []) (lenOf own_pd17 rfl) rfl (by show 2 * 0 + _ ≤ _; exact Nat.le_of_eq rfl) (hb hby own_d_prog_43_method_1_code_128) (fun _ _ => ⟨rfl, e426, (by decide : 2 + 1 ≤ _), (by decide : 20 + 3 ≤ _)⟩)
    dsimp only [Pt.U, Pt.locs, Pt.cells, Pt.slots] at X427 l427 y427 z427 st427 hQ427
    subst l427 y427 z427
    obtain ⟨b_427, k_427, rfl, N427q, ob_427, K_427, V_427⟩ := hQ427
    have N427 := Fr.app N425 N427q
    have nq428 : a ≠ b_427 := Nat.ne_of_lt (Nat.lt_of_lt_of_le c406.lt ob_427)
    have nq429 : s_ ≠ b_427 := Nat.ne_of_lt (Nat.lt_of_lt_of_le c409.lt ob_427)
    have nq430 : b ≠ b_427 := Nat.ne_of_lt (Nat.lt_of_lt_of_le c412.lt ob_427)
    have oo_427 : h0.size ≤ b_427 := Nat.le_trans K405.1 ob_427
    have c431 := c406.keep K_427
    have c433 := c407.keep K_427 nin0
    have c434 := c408.keep K_427 nin0
    have c437 := c409.keep K_427
    have c438 := c410.keep K_427 nin0
    have c439 := c411.keep K_427 nin0
    have c440 := c412.keep K_427 nin0
    have c441 := c413.keep K_427
    have c442 := own_sta_keep c414 K_427 own_ns0
    have c443 := own_sta_keep c415 K_427 own_ns0
    have c444 := own_sta_keep c416 K_427 own_ns0
    have c445 := own_sta_keep c417 K_427 own_ns0
    have hz427 : n0 ≤ T427.heap.size := Nat.le_trans hz405 K_427.1
    have hkq427 : kS ≤ T427.heap.size := Nat.le_trans hk405 K_427.1
    have K427 := Keep.trans K405 K_427 all0
    refine own_go (T' := T427) (g' := (mkF m 131 #[rv a, rv s_, iv (2 : Int32), iv c1, .unset] [(.ref b_427)])) (fun t k => st427.trans k) ?_
    refine own_go (T' := T427) (g' := (mkF m 132 #[rv a, rv s_, iv (2 : Int32), rv b_427, .unset] [])) (fun t k => XS.astoreN X427.here hx rfl (hb hby own_d_prog_43_method_1_code_131) rfl rfl (l' := #[rv a, rv s_, iv (2 : Int32), rv b_427, .unset]) rfl k) ?_
    refine own_go (T' := T427) (g' := (mkF m 133 #[rv a, rv s_, iv (2 : Int32), rv b_427, .unset] [(.ref b_427)])) (fun t k => XS.aloadN X427.here hx rfl (hb hby own_d_prog_43_method_1_code_132) rfl rfl k) ?_
    obtain ⟨cl446, Ar446, -, Sz446, Nn446, -, -⟩ := id V_427
    refine own_go (T' := T427) (g' := (mkF m 134 #[rv a, rv s_, iv (2 : Int32), rv b_427, .unset] [(.int (2 : Int32))])) (fun t k => X427.arraylength hx (by exact Ar446.1) (State.isArrayOf_alike hZ.alike Ar446.2.1) (g := (mkF m 133 #[rv a, rv s_, iv (2 : Int32), rv b_427, .unset] [(.ref b_427)])) rfl rfl (hb hby own_d_prog_43_method_1_code_133) _ (by rw [len_of Sz446 Nn446]; exact k)) ?_
    refine own_go (T' := T427) (g' := (mkF m 136 #[rv a, rv s_, iv (2 : Int32), rv b_427, .unset] [(.int (65535 : Int32)), (.int (2 : Int32))])) (fun t k => X427.ldcInt hx hown (mvT hZ (hw _ (List.mem_of_getElem? (i := 120) rfl))) (g := (mkF m 134 #[rv a, rv s_, iv (2 : Int32), rv b_427, .unset] [(.int (2 : Int32))])) rfl (hb hby own_d_prog_43_method_1_code_134) _ k) ?_
    refine own_go (T' := T427) (g' := (mkF m 154 #[rv a, rv s_, iv (2 : Int32), rv b_427, .unset] [])) (fun t k => XS.icmpYes X427.here hx rfl (pc0 := 136) (pc' := 154) rfl (hb hby own_d_prog_43_method_1_code_136) rfl (flt (by decide : ¬ ((65535 : Int32) < (2 : Int32)))).2.2.2 (by decide) (by decide) k) ?_
    refine own_go (T' := T427) (g' := (mkF m 155 #[rv a, rv s_, iv (2 : Int32), rv b_427, .unset] [(.ref a)])) (fun t k => XS.aloadN X427.here hx rfl (hb hby own_d_prog_43_method_1_code_154) rfl rfl k) ?_
    refine own_go (T' := T427) (g' := (mkF m 156 #[rv a, rv s_, iv (2 : Int32), rv b_427, .unset] [(.ref s_), (.ref a)])) (fun t k => XS.aloadN X427.here hx rfl (hb hby own_d_prog_43_method_1_code_155) rfl rfl k) ?_
    obtain ⟨T447, h447, X447, e447, W447, st447⟩ := putF X427 hx hZ hown (host := "") (Or.inl (hw _ (List.mem_of_getElem? (i := 121) rfl))) Via.refl rfl c433 c431 (Or.inr ⟨(hw _ (List.mem_of_getElem? (i := 122) rfl)), rfl, hnm⟩) (hw _ (List.mem_of_getElem? (i := 39) rfl)) (ty := (.object "java/lang/String")) (by decide) rfl rfl (g := (mkF m 156 #[rv a, rv s_, iv (2 : Int32), rv b_427, .unset] [(.ref s_), (.ref a)])) rfl rfl (hb hby own_d_prog_43_method_1_code_156)
    have hz447 : n0 ≤ h447.size := Nat.le_trans hz427 (Keep.of_wr W447).1
    have hkE447 : kS ≤ h447.size := Nat.le_trans hkq427 (Keep.of_wr W447).1
    have N447 := Fr.snoc X447 N427 g_a
    have K447 := K427.wr W447 (Or.inl (List.mem_of_getElem? (i := 0) rfl))
    have c448 := c431.wr W447
    have c449 := c433.same W447
    have c450 := c434.other W447 (Or.inr (slot_ne (Or.inr (hw _ (List.mem_of_getElem? (i := 124) rfl))) (Or.inr (hw _ (List.mem_of_getElem? (i := 122) rfl))) (by decide) (t := (.array .byte)) (t' := (.object "java/lang/String")) (by decide) (by decide)))
    have c451 := c437.wr W447
    have c452 := c438.other W447 (Or.inl n_sa)
    have c453 := c439.other W447 (Or.inl n_sa)
    have c454 := c440.other W447 n_ba
    have c455 := c441.wr W447
    have c456 := c442.wr W447
    have c457 := c443.wr W447
    have c458 := c444.wr W447
    have c459 := c445.wr W447
    have c460 := V_427.other W447 (Ne.symm nq428)
    refine own_go (T' := T447) (g' := (mkF m 159 #[rv a, rv s_, iv (2 : Int32), rv b_427, .unset] [])) (st447) ?_
    refine own_go (T' := T447) (g' := (mkF m 160 #[rv a, rv s_, iv (2 : Int32), rv b_427, .unset] [(.ref a)])) (fun t k => XS.aloadN X447.here hx rfl (hb hby own_d_prog_43_method_1_code_159) rfl rfl k) ?_
    refine own_go (T' := T447) (g' := (mkF m 161 #[rv a, rv s_, iv (2 : Int32), rv b_427, .unset] [(.ref b_427), (.ref a)])) (fun t k => XS.aloadN X447.here hx rfl (hb hby own_d_prog_43_method_1_code_160) rfl rfl k) ?_
    obtain ⟨T461, h461, X461, e461, W461, st461⟩ := putF X447 hx hZ hown (host := "") (Or.inl (hw _ (List.mem_of_getElem? (i := 123) rfl))) Via.refl e447 c450 c448 (Or.inr ⟨(hw _ (List.mem_of_getElem? (i := 124) rfl)), rfl, hnm⟩) (hw _ (List.mem_of_getElem? (i := 39) rfl)) (ty := (.array .byte)) (by decide) rfl rfl (g := (mkF m 161 #[rv a, rv s_, iv (2 : Int32), rv b_427, .unset] [(.ref b_427), (.ref a)])) rfl rfl (hb hby own_d_prog_43_method_1_code_161)
    have hz461 : n0 ≤ h461.size := Nat.le_trans hz447 (Keep.of_wr W461).1
    have hkE461 : kS ≤ h461.size := Nat.le_trans hkE447 (Keep.of_wr W461).1
    have N461 := Fr.snoc X461 N447 g_a
    have K461 := K447.wr W461 (Or.inl (List.mem_of_getElem? (i := 0) rfl))
    have c462 := c448.wr W461
    have c463 := c449.other W461 (Or.inr (slot_ne (Or.inr (hw _ (List.mem_of_getElem? (i := 122) rfl))) (Or.inr (hw _ (List.mem_of_getElem? (i := 124) rfl))) (by decide) (t := (.object "java/lang/String")) (t' := (.array .byte)) (by decide) (by decide)))
    have c464 := c450.same W461
    have c465 := c451.wr W461
    have c466 := c452.other W461 (Or.inl n_sa)
    have c467 := c453.other W461 (Or.inl n_sa)
    have c468 := c454.other W461 n_ba
    have c469 := c455.wr W461
    have c470 := c456.wr W461
    have c471 := c457.wr W461
    have c472 := c458.wr W461
    have c473 := c459.wr W461
    have c474 := c460.other W461 (Ne.symm nq428)
    refine own_go (T' := T461) (g' := (mkF m 164 #[rv a, rv s_, iv (2 : Int32), rv b_427, .unset] [])) (st461) ?_
    exact own_ret0W X461 hS (by rw [e461]; exact hkE461) hlk hx Bd.returns (hb hby own_d_prog_43_method_1_code_164) (by rw [e461]; exact ⟨rfl, N461, K461, c462, c463⟩) (by decide) (by decide)
  · have V475 : Arv Z h0 b kb .byte (3 : Int32) [(.int c0), (.int c1), (.int c2)] (.int (0 : Int32)) := V_b
    refine own_go (T' := s₁) (g' := (mkF m 1 #[rv a, rv s_, .unset, .unset, .unset] [(.ref a)])) (fun t k => XS.aloadN X0.here hx rfl (hb hby own_d_prog_43_method_1_code_0) rfl rfl k) ?_
    obtain ⟨T476, X476, e476, st476⟩ := initO X0 hx hZ hown (hw _ (List.mem_of_getElem? (i := 44) rfl)) (hw _ (List.mem_of_getElem? (i := 20) rfl)) (hw _ (List.mem_of_getElem? (i := 21) rfl)) e0 (g := (mkF m 1 #[rv a, rv s_, .unset, .unset, .unset] [(.ref a)])) rfl (by rw [hml]; rfl) rfl (hb hby own_d_prog_43_method_1_code_1) (by decide) (W := 0) (by show 2 * 0 + _ ≤ _; exact Nat.le_of_eq rfl) (by decide)
    refine own_go (T' := T476) (g' := (mkF m 4 #[rv a, rv s_, .unset, .unset, .unset] [])) (st476) ?_
    refine own_go (T' := T476) (g' := (mkF m 5 #[rv a, rv s_, .unset, .unset, .unset] [(.ref s_)])) (fun t k => XS.aloadN X476.here hx rfl (hb hby own_d_prog_43_method_1_code_4) rfl rfl k) ?_
    obtain ⟨aS, T477, h477, kS, X477, e477, E477, hS, hk477, hZ, hown, st477⟩ := ldcS (vm0 := s.vm) X476 hx hZ hown (hw _ (List.mem_of_getElem? (i := 45) rfl)) (by intro a ha; simp only [Bundle.stringAtoms, List.mem_cons, List.not_mem_nil, or_false] at ha; rcases ha with rfl | rfl | rfl | rfl | rfl | rfl | rfl; exact (hw _ (List.mem_of_getElem? (i := 10) rfl)); exact (hw _ (List.mem_of_getElem? (i := 9) rfl)); exact (hw _ (List.mem_of_getElem? (i := 27) rfl)); exact (hw _ (List.mem_of_getElem? (i := 37) rfl)); exact (hw _ (List.mem_of_getElem? (i := 35) rfl)); exact (hw _ (List.mem_of_getElem? (i := 46) rfl)); exact (hw _ (List.mem_of_getElem? (i := 47) rfl))) e476 ((State.WarmedH.refl s).since 0) (Nat.zero_le _) (g := (mkF m 5 #[rv a, rv s_, .unset, .unset, .unset] [(.ref s_)])) rfl (hb hby own_d_prog_43_method_1_code_5) (n := 16) (by decide) (by decide) (by decide) (by decide)
    have hz477 : n0 ≤ h477.size := Nat.le_trans Z0 E477.1
    have K477 := (Keep.refl h0 [a]).ext E477
    have c478 := E_a.ext E477
    have c479 := F_nm.ext E477
    have c480 := F_en.ext E477
    have c481 := E_s.ext E477
    have c482 := F_c.ext E477
    have c483 := F_v.ext E477
    have c484 := V475.ext E477
    have c485 := E_b.ext E477
    have c486 := S_cp.ext E477
    have c487 := S_fm.ext E477
    have c488 := S_u8.ext E477
    have c489 := S_in.ext E477
    refine own_go (T' := T477) (g' := (mkF m 7 #[rv a, rv s_, .unset, .unset, .unset] [(.ref aS), (.ref s_)])) (st477) ?_
    obtain ⟨_, _, ⟨T490, L490, k490, n490⟩, -, X490, ⟨Lc490, hQ490, l490, y490, z490⟩, st490⟩ := Jvm.LawKit.callS X477 hx (y := (⟨"java/util/Objects", "requireNonNull", "(Ljava/lang/Object;Ljava/lang/String;)Ljava/lang/Object;"⟩ : MethodName)) hown (mvT hZ (hw _ (List.mem_of_getElem? (i := 48) rfl))) (mvT hZ (hw _ (List.mem_of_getElem? (i := 49) rfl))) (mvT hZ (hw _ (List.mem_of_getElem? (i := 50) rfl))) (mvT hZ (hw _ (List.mem_of_getElem? (i := 51) rfl))) (by decide) (backOf (W := 0) (own_rrn l Z a0 hw [] s_ aS h477 n0 hz477) hZ (hw _ (List.mem_of_getElem? (i := 51) rfl)) (hw _ (List.mem_of_getElem? (i := 50) rfl)) (by decide) (by decide)) (g := (mkF m 7 #[rv a, rv s_, .unset, .unset, .unset] [(.ref aS), (.ref s_)])) rfl (by rw [hml]; rfl) (argsL := [(.ref s_), (.ref aS)]) (rest := []) (lenOf own_pd14 rfl) rfl (by show 2 * 0 + _ ≤ _; exact Nat.le_of_eq rfl) (hb hby own_d_prog_43_method_1_code_7) (fun _ _ => ⟨rfl, e477, (by decide : 2 + 0 ≤ _), (by decide : 20 + 0 ≤ _)⟩)
    dsimp only [Pt.U, Pt.locs, Pt.cells, Pt.slots] at X490 l490 y490 z490 st490 hQ490
    subst l490 y490 z490
    obtain ⟨rfl, rfl, e490⟩ := hQ490
    have E490q : T490.heap = h477 := e490
    have N490 := Fr.app N0 (Fr.nil n0)
    refine own_go (T' := T490) (g' := (mkF m 10 #[rv a, rv s_, .unset, .unset, .unset] [(.ref s_)])) (st490) ?_
    refine own_go (T' := T490) (g' := (mkF m 11 #[rv a, rv s_, .unset, .unset, .unset] [])) (fun t k => XS.pop X490.here hx rfl (hb hby own_d_prog_43_method_1_code_10) rfl rfl k) ?_
    refine own_go (T' := T490) (g' := (mkF m 12 #[rv a, rv s_, .unset, .unset, .unset] [(.ref s_)])) (fun t k => XS.aloadN X490.here hx rfl (hb hby own_d_prog_43_method_1_code_11) rfl rfl k) ?_
    obtain ⟨cq491, kq491, q491a, q491b, q491c⟩ := isOf hZ E490q c481
    obtain ⟨_, _, ⟨T491, L491, k491, n491⟩, -, X491, ⟨Lc491, hQ491, l491, y491, z491⟩, st491⟩ := X490.virtualBack hx (y := (⟨"java/lang/String", "isEmpty", "()Z"⟩ : MethodName)) (z := (⟨"java/lang/String", "isEmpty", "()Z"⟩ : MethodName)) hown (mvT hZ (hw _ (List.mem_of_getElem? (i := 52) rfl))) (mvT hZ (hw _ (List.mem_of_getElem? (i := 53) rfl))) (notFace_of_selects (args := #[]) (mvT hZ (hw _ (List.mem_of_getElem? (i := 55) rfl)))) (mvT hZ (hw _ (List.mem_of_getElem? (i := 55) rfl))) (mvT hZ (hw _ (List.mem_of_getElem? (i := 54) rfl))) (by decide) (backOf (W := 0) (own_rem l Z a0 hw [] s_ b kb (3 : Int32) [(.int c0), (.int c1), (.int c2)] h477 n0 hz477 c483 c484 (by decide)) hZ (hw _ (List.mem_of_getElem? (i := 56) rfl)) (hw _ (List.mem_of_getElem? (i := 10) rfl)) (by decide) (by decide)) q491a q491c (g := (mkF m 12 #[rv a, rv s_, .unset, .unset, .unset] [(.ref s_)])) rfl (by rw [hml]; rfl) (Steps.refl _) (argsL := []) (rest := []) (lenOf own_pd7 rfl) rfl (by show 2 * 0 + _ ≤ _; exact Nat.le_of_eq rfl) (hb hby own_d_prog_43_method_1_code_12) (fun _ _ => ⟨rfl, E490q, (by decide : 2 + 0 ≤ _), (by decide : 20 + 0 ≤ _)⟩)
    dsimp only [Pt.U, Pt.locs, Pt.cells, Pt.slots] at X491 l491 y491 z491 st491 hQ491
    subst l491 y491 z491
    obtain ⟨rfl, rfl, e491⟩ := hQ491
    have E491q : T491.heap = h477 := e491
    have N491 := Fr.app N490 (Fr.nil n0)
    refine own_go (T' := T491) (g' := (mkF m 15 #[rv a, rv s_, .unset, .unset, .unset] [(.int (0 : Int32))])) (fun t k => st491.trans k) ?_
    refine own_go (T' := T491) (g' := (mkF m 28 #[rv a, rv s_, .unset, .unset, .unset] [])) (fun t k => XS.ifYes X491.here hx rfl (pc0 := 15) (pc' := 28) rfl (hb hby own_d_prog_43_method_1_code_15) rfl ((if0 _ _).trans (teq (by decide : ((0 : Int32) = (0 : Int32)))).1) (by decide) (by decide) k) ?_
    refine own_go (T' := T491) (g' := (mkF m 29 #[rv a, rv s_, .unset, .unset, .unset] [(.ref s_)])) (fun t k => XS.aloadN X491.here hx rfl (hb hby own_d_prog_43_method_1_code_28) rfl rfl k) ?_
    refine own_go (T' := T491) (g' := (mkF m 30 #[rv a, rv s_, .unset, .unset, .unset] [(.int (0 : Int32)), (.ref s_)])) (fun t k => XS.iconst X491.here hx rfl (hb hby own_d_prog_43_method_1_code_29) k) ?_
    obtain ⟨cq492, kq492, q492a, q492b, q492c⟩ := isOf hZ E491q c481
    obtain ⟨_, _, ⟨T492, L492, k492, n492⟩, -, X492, ⟨Lc492, hQ492, l492, y492, z492⟩, st492⟩ := X491.virtualBack hx (y := (⟨"java/lang/String", "charAt", "(I)C"⟩ : MethodName)) (z := (⟨"java/lang/String", "charAt", "(I)C"⟩ : MethodName)) hown (mvT hZ (hw _ (List.mem_of_getElem? (i := 57) rfl))) (mvT hZ (hw _ (List.mem_of_getElem? (i := 58) rfl))) (notFace_of_selects (args := #[]) (mvT hZ (hw _ (List.mem_of_getElem? (i := 60) rfl)))) (mvT hZ (hw _ (List.mem_of_getElem? (i := 60) rfl))) (mvT hZ (hw _ (List.mem_of_getElem? (i := 59) rfl))) (by decide) (backOf (W := 0) (own_rca l Z a0 hw [] s_ b kb (0 : Int32) (3 : Int32) c0 cp [(.int c0), (.int c1), (.int c2)] fm h477 n0 hz477 c481 c482 c483 c484 (by decide) (by decide) rfl q0 c486 hcp c487 hfm) hZ (hw _ (List.mem_of_getElem? (i := 61) rfl)) (hw _ (List.mem_of_getElem? (i := 10) rfl)) (by decide) (by decide)) q492a q492c (g := (mkF m 30 #[rv a, rv s_, .unset, .unset, .unset] [(.int (0 : Int32)), (.ref s_)])) rfl (by rw [hml]; rfl) (Steps.refl _) (argsL := [(.int (0 : Int32))]) (rest := []) (lenOf own_pd15 rfl) rfl (by show 2 * 0 + _ ≤ _; exact Nat.le_of_eq rfl) (hb hby own_d_prog_43_method_1_code_30) (fun _ _ => ⟨rfl, E491q, (by decide : 2 + 0 ≤ _), (by decide : 20 + 0 ≤ _)⟩)
    dsimp only [Pt.U, Pt.locs, Pt.cells, Pt.slots] at X492 l492 y492 z492 st492 hQ492
    subst l492 y492 z492
    obtain ⟨rfl, rfl, e492⟩ := hQ492
    have E492q : T492.heap = h477 := e492
    have N492 := Fr.app N491 (Fr.nil n0)
    refine own_go (T' := T492) (g' := (mkF m 33 #[rv a, rv s_, .unset, .unset, .unset] [(.int c0)])) (fun t k => st492.trans k) ?_
    refine own_go (T' := T492) (g' := (mkF m 35 #[rv a, rv s_, .unset, .unset, .unset] [(.int (36 : Int32)), (.int c0)])) (fun t k => XS.bipush X492.here hx rfl (hb hby own_d_prog_43_method_1_code_33) k) ?_
    refine own_go (T' := T492) (g' := (mkF m 48 #[rv a, rv s_, .unset, .unset, .unset] [])) (fun t k => XS.icmpYes X492.here hx rfl (pc0 := 35) (pc' := 48) rfl (hb hby own_d_prog_43_method_1_code_35) rfl (feq (own_cne q0 (by decide) : ¬ (c0 = (36 : Int32)))).2 (by decide) (by decide) k) ?_
    refine own_go (T' := T492) (g' := (mkF m 49 #[rv a, rv s_, .unset, .unset, .unset] [(.int (0 : Int32))])) (fun t k => XS.iconst X492.here hx rfl (hb hby own_d_prog_43_method_1_code_48) k) ?_
    refine own_go (T' := T492) (g' := (mkF m 50 #[rv a, rv s_, iv (0 : Int32), .unset, .unset] [])) (fun t k => XS.istoreN X492.here hx rfl (hb hby own_d_prog_43_method_1_code_49) rfl (l' := #[rv a, rv s_, iv (0 : Int32), .unset, .unset]) rfl k) ?_
    refine own_go (T' := T492) (g' := (mkF m 51 #[rv a, rv s_, iv (0 : Int32), .unset, .unset] [(.int (0 : Int32))])) (fun t k => XS.iloadN X492.here hx rfl (hb hby own_d_prog_43_method_1_code_50) rfl k) ?_
    refine own_go (T' := T492) (g' := (mkF m 52 #[rv a, rv s_, iv (0 : Int32), .unset, .unset] [(.ref s_), (.int (0 : Int32))])) (fun t k => XS.aloadN X492.here hx rfl (hb hby own_d_prog_43_method_1_code_51) rfl rfl k) ?_
    obtain ⟨cq493, kq493, q493a, q493b, q493c⟩ := isOf hZ E492q c481
    obtain ⟨_, _, ⟨T493, L493, k493, n493⟩, -, X493, ⟨Lc493, hQ493, l493, y493, z493⟩, st493⟩ := X492.virtualBack hx (y := (⟨"java/lang/String", "length", "()I"⟩ : MethodName)) (z := (⟨"java/lang/String", "length", "()I"⟩ : MethodName)) hown (mvT hZ (hw _ (List.mem_of_getElem? (i := 79) rfl))) (mvT hZ (hw _ (List.mem_of_getElem? (i := 80) rfl))) (notFace_of_selects (args := #[]) (mvT hZ (hw _ (List.mem_of_getElem? (i := 82) rfl)))) (mvT hZ (hw _ (List.mem_of_getElem? (i := 82) rfl))) (mvT hZ (hw _ (List.mem_of_getElem? (i := 81) rfl))) (by decide) (backOf (W := 1) (own_rln l Z a0 hw [] s_ b kb (3 : Int32) cp [(.int c0), (.int c1), (.int c2)] h477 n0 hz477 c481 c482 c483 c484 c486 hcp (by decide)) hZ (hw _ (List.mem_of_getElem? (i := 83) rfl)) (hw _ (List.mem_of_getElem? (i := 10) rfl)) (by decide) (by decide)) q493a q493c (g := (mkF m 52 #[rv a, rv s_, iv (0 : Int32), .unset, .unset] [(.ref s_), (.int (0 : Int32))])) rfl (by rw [hml]; rfl) (Steps.refl _) (argsL := []) (rest := [(.int (0 : Int32))]) (lenOf own_pd16 rfl) rfl (by show 2 * 0 + _ ≤ _; exact Nat.le_of_eq rfl) (hb hby own_d_prog_43_method_1_code_52) (fun _ _ => ⟨rfl, E492q, (by decide : 2 + 0 ≤ _), (by decide : 20 + 0 ≤ _)⟩)
    dsimp only [Pt.U, Pt.locs, Pt.cells, Pt.slots] at X493 l493 y493 z493 st493 hQ493
    subst l493 y493 z493
    obtain ⟨rfl, rfl, e493⟩ := hQ493
    have E493q : T493.heap = h477 := e493
    have N493 := Fr.app N492 (Fr.nil n0)
    refine own_go (T' := T493) (g' := (mkF m 55 #[rv a, rv s_, iv (0 : Int32), .unset, .unset] [(.int (3 : Int32)), (.int (0 : Int32))])) (fun t k => st493.trans k) ?_
    refine own_go (T' := T493) (g' := (mkF m 58 #[rv a, rv s_, iv (0 : Int32), .unset, .unset] [])) (fun t k => XS.icmpNo X493.here hx rfl (hb hby own_d_prog_43_method_1_code_55) rfl (tlt (by decide : ((0 : Int32) < (3 : Int32)))).2.1 k) ?_
    refine own_go (T' := T493) (g' := (mkF m 59 #[rv a, rv s_, iv (0 : Int32), .unset, .unset] [(.ref s_)])) (fun t k => XS.aloadN X493.here hx rfl (hb hby own_d_prog_43_method_1_code_58) rfl rfl k) ?_
    refine own_go (T' := T493) (g' := (mkF m 60 #[rv a, rv s_, iv (0 : Int32), .unset, .unset] [(.int (0 : Int32)), (.ref s_)])) (fun t k => XS.iloadN X493.here hx rfl (hb hby own_d_prog_43_method_1_code_59) rfl k) ?_
    obtain ⟨cq494, kq494, q494a, q494b, q494c⟩ := isOf hZ E493q c481
    obtain ⟨_, _, ⟨T494, L494, k494, n494⟩, -, X494, ⟨Lc494, hQ494, l494, y494, z494⟩, st494⟩ := X493.virtualBack hx (y := (⟨"java/lang/String", "charAt", "(I)C"⟩ : MethodName)) (z := (⟨"java/lang/String", "charAt", "(I)C"⟩ : MethodName)) hown (mvT hZ (hw _ (List.mem_of_getElem? (i := 57) rfl))) (mvT hZ (hw _ (List.mem_of_getElem? (i := 58) rfl))) (notFace_of_selects (args := #[]) (mvT hZ (hw _ (List.mem_of_getElem? (i := 60) rfl)))) (mvT hZ (hw _ (List.mem_of_getElem? (i := 60) rfl))) (mvT hZ (hw _ (List.mem_of_getElem? (i := 59) rfl))) (by decide) (backOf (W := 0) (own_rca l Z a0 hw [] s_ b kb (0 : Int32) (3 : Int32) c0 cp [(.int c0), (.int c1), (.int c2)] fm h477 n0 hz477 c481 c482 c483 c484 (by decide) (by decide) rfl q0 c486 hcp c487 hfm) hZ (hw _ (List.mem_of_getElem? (i := 61) rfl)) (hw _ (List.mem_of_getElem? (i := 10) rfl)) (by decide) (by decide)) q494a q494c (g := (mkF m 60 #[rv a, rv s_, iv (0 : Int32), .unset, .unset] [(.int (0 : Int32)), (.ref s_)])) rfl (by rw [hml]; rfl) (Steps.refl _) (argsL := [(.int (0 : Int32))]) (rest := []) (lenOf own_pd15 rfl) rfl (by show 2 * 0 + _ ≤ _; exact Nat.le_of_eq rfl) (hb hby own_d_prog_43_method_1_code_60) (fun _ _ => ⟨rfl, E493q, (by decide : 2 + 0 ≤ _), (by decide : 20 + 0 ≤ _)⟩)
    dsimp only [Pt.U, Pt.locs, Pt.cells, Pt.slots] at X494 l494 y494 z494 st494 hQ494
    subst l494 y494 z494
    obtain ⟨rfl, rfl, e494⟩ := hQ494
    have E494q : T494.heap = h477 := e494
    have N494 := Fr.app N493 (Fr.nil n0)
    refine own_go (T' := T494) (g' := (mkF m 63 #[rv a, rv s_, iv (0 : Int32), .unset, .unset] [(.int c0)])) (fun t k => st494.trans k) ?_
    refine own_go (T' := T494) (g' := (mkF m 64 #[rv a, rv s_, iv (0 : Int32), iv c0, .unset] [])) (fun t k => XS.istoreN X494.here hx rfl (hb hby own_d_prog_43_method_1_code_63) rfl (l' := #[rv a, rv s_, iv (0 : Int32), iv c0, .unset]) rfl k) ?_
    refine own_go (T' := T494) (g' := (mkF m 65 #[rv a, rv s_, iv (0 : Int32), iv c0, .unset] [(.int c0)])) (fun t k => XS.iloadN X494.here hx rfl (hb hby own_d_prog_43_method_1_code_64) rfl k) ?_
    refine own_go (T' := T494) (g' := (mkF m 67 #[rv a, rv s_, iv (0 : Int32), iv c0, .unset] [(.int (31 : Int32)), (.int c0)])) (fun t k => XS.bipush X494.here hx rfl (hb hby own_d_prog_43_method_1_code_65) k) ?_
    refine own_go (T' := T494) (g' := (mkF m 70 #[rv a, rv s_, iv (0 : Int32), iv c0, .unset] [])) (fun t k => XS.icmpNo X494.here hx rfl (hb hby own_d_prog_43_method_1_code_67) rfl (tlt (own_c31 q0 : ((31 : Int32) < c0))).2.2.2 k) ?_
    refine own_go (T' := T494) (g' := (mkF m 71 #[rv a, rv s_, iv (0 : Int32), iv c0, .unset] [(.int c0)])) (fun t k => XS.iloadN X494.here hx rfl (hb hby own_d_prog_43_method_1_code_70) rfl k) ?_
    refine own_go (T' := T494) (g' := (mkF m 73 #[rv a, rv s_, iv (0 : Int32), iv c0, .unset] [(.int (127 : Int32)), (.int c0)])) (fun t k => XS.bipush X494.here hx rfl (hb hby own_d_prog_43_method_1_code_71) k) ?_
    refine own_go (T' := T494) (g' := (mkF m 76 #[rv a, rv s_, iv (0 : Int32), iv c0, .unset] [])) (fun t k => XS.icmpNo X494.here hx rfl (hb hby own_d_prog_43_method_1_code_73) rfl (tlt (own_c127 q0 : (c0 < (127 : Int32)))).2.1 k) ?_
    refine own_go (T' := T494) (g' := (mkF m 77 #[rv a, rv s_, iv (0 : Int32), iv c0, .unset] [(.int c0)])) (fun t k => XS.iloadN X494.here hx rfl (hb hby own_d_prog_43_method_1_code_76) rfl k) ?_
    refine own_go (T' := T494) (g' := (mkF m 79 #[rv a, rv s_, iv (0 : Int32), iv c0, .unset] [(.int (43 : Int32)), (.int c0)])) (fun t k => XS.bipush X494.here hx rfl (hb hby own_d_prog_43_method_1_code_77) k) ?_
    refine own_go (T' := T494) (g' := (mkF m 82 #[rv a, rv s_, iv (0 : Int32), iv c0, .unset] [])) (fun t k => XS.icmpNo X494.here hx rfl (hb hby own_d_prog_43_method_1_code_79) rfl (feq (own_cne q0 (by decide) : ¬ (c0 = (43 : Int32)))).1 k) ?_
    refine own_go (T' := T494) (g' := (mkF m 83 #[rv a, rv s_, iv (0 : Int32), iv c0, .unset] [(.int c0)])) (fun t k => XS.iloadN X494.here hx rfl (hb hby own_d_prog_43_method_1_code_82) rfl k) ?_
    refine own_go (T' := T494) (g' := (mkF m 85 #[rv a, rv s_, iv (0 : Int32), iv c0, .unset] [(.int (35 : Int32)), (.int c0)])) (fun t k => XS.bipush X494.here hx rfl (hb hby own_d_prog_43_method_1_code_83) k) ?_
    refine own_go (T' := T494) (g' := (mkF m 88 #[rv a, rv s_, iv (0 : Int32), iv c0, .unset] [])) (fun t k => XS.icmpNo X494.here hx rfl (hb hby own_d_prog_43_method_1_code_85) rfl (feq (own_cne q0 (by decide) : ¬ (c0 = (35 : Int32)))).1 k) ?_
    refine own_go (T' := T494) (g' := (mkF m 89 #[rv a, rv s_, iv (0 : Int32), iv c0, .unset] [(.int c0)])) (fun t k => XS.iloadN X494.here hx rfl (hb hby own_d_prog_43_method_1_code_88) rfl k) ?_
    refine own_go (T' := T494) (g' := (mkF m 91 #[rv a, rv s_, iv (0 : Int32), iv c0, .unset] [(.int (44 : Int32)), (.int c0)])) (fun t k => XS.bipush X494.here hx rfl (hb hby own_d_prog_43_method_1_code_89) k) ?_
    refine own_go (T' := T494) (g' := (mkF m 94 #[rv a, rv s_, iv (0 : Int32), iv c0, .unset] [])) (fun t k => XS.icmpNo X494.here hx rfl (hb hby own_d_prog_43_method_1_code_91) rfl (feq (own_cne q0 (by decide) : ¬ (c0 = (44 : Int32)))).1 k) ?_
    refine own_go (T' := T494) (g' := (mkF m 97 #[rv a, rv s_, iv (1 : Int32), iv c0, .unset] [])) (fun t k => XS.iinc X494.here hx rfl (hb hby own_d_prog_43_method_1_code_94) rfl (l' := #[rv a, rv s_, iv (1 : Int32), iv c0, .unset]) rfl k) ?_
    refine own_go (T' := T494) (g' := (mkF m 50 #[rv a, rv s_, iv (1 : Int32), iv c0, .unset] [])) (fun t k => XS.goto X494.here hx rfl (pc0 := 97) (pc' := 50) rfl (hb hby own_d_prog_43_method_1_code_97) (by decide) (by decide) k) ?_
    refine own_go (T' := T494) (g' := (mkF m 51 #[rv a, rv s_, iv (1 : Int32), iv c0, .unset] [(.int (1 : Int32))])) (fun t k => XS.iloadN X494.here hx rfl (hb hby own_d_prog_43_method_1_code_50) rfl k) ?_
    refine own_go (T' := T494) (g' := (mkF m 52 #[rv a, rv s_, iv (1 : Int32), iv c0, .unset] [(.ref s_), (.int (1 : Int32))])) (fun t k => XS.aloadN X494.here hx rfl (hb hby own_d_prog_43_method_1_code_51) rfl rfl k) ?_
    obtain ⟨cq495, kq495, q495a, q495b, q495c⟩ := isOf hZ E494q c481
    obtain ⟨_, _, ⟨T495, L495, k495, n495⟩, -, X495, ⟨Lc495, hQ495, l495, y495, z495⟩, st495⟩ := X494.virtualBack hx (y := (⟨"java/lang/String", "length", "()I"⟩ : MethodName)) (z := (⟨"java/lang/String", "length", "()I"⟩ : MethodName)) hown (mvT hZ (hw _ (List.mem_of_getElem? (i := 79) rfl))) (mvT hZ (hw _ (List.mem_of_getElem? (i := 80) rfl))) (notFace_of_selects (args := #[]) (mvT hZ (hw _ (List.mem_of_getElem? (i := 82) rfl)))) (mvT hZ (hw _ (List.mem_of_getElem? (i := 82) rfl))) (mvT hZ (hw _ (List.mem_of_getElem? (i := 81) rfl))) (by decide) (backOf (W := 1) (own_rln l Z a0 hw [] s_ b kb (3 : Int32) cp [(.int c0), (.int c1), (.int c2)] h477 n0 hz477 c481 c482 c483 c484 c486 hcp (by decide)) hZ (hw _ (List.mem_of_getElem? (i := 83) rfl)) (hw _ (List.mem_of_getElem? (i := 10) rfl)) (by decide) (by decide)) q495a q495c (g := (mkF m 52 #[rv a, rv s_, iv (1 : Int32), iv c0, .unset] [(.ref s_), (.int (1 : Int32))])) rfl (by rw [hml]; rfl) (Steps.refl _) (argsL := []) (rest := [(.int (1 : Int32))]) (lenOf own_pd16 rfl) rfl (by show 2 * 0 + _ ≤ _; exact Nat.le_of_eq rfl) (hb hby own_d_prog_43_method_1_code_52) (fun _ _ => ⟨rfl, E494q, (by decide : 2 + 0 ≤ _), (by decide : 20 + 0 ≤ _)⟩)
    dsimp only [Pt.U, Pt.locs, Pt.cells, Pt.slots] at X495 l495 y495 z495 st495 hQ495
    subst l495 y495 z495
    obtain ⟨rfl, rfl, e495⟩ := hQ495
    have E495q : T495.heap = h477 := e495
    have N495 := Fr.app N494 (Fr.nil n0)
    refine own_go (T' := T495) (g' := (mkF m 55 #[rv a, rv s_, iv (1 : Int32), iv c0, .unset] [(.int (3 : Int32)), (.int (1 : Int32))])) (fun t k => st495.trans k) ?_
    refine own_go (T' := T495) (g' := (mkF m 58 #[rv a, rv s_, iv (1 : Int32), iv c0, .unset] [])) (fun t k => XS.icmpNo X495.here hx rfl (hb hby own_d_prog_43_method_1_code_55) rfl (tlt (by decide : ((1 : Int32) < (3 : Int32)))).2.1 k) ?_
    refine own_go (T' := T495) (g' := (mkF m 59 #[rv a, rv s_, iv (1 : Int32), iv c0, .unset] [(.ref s_)])) (fun t k => XS.aloadN X495.here hx rfl (hb hby own_d_prog_43_method_1_code_58) rfl rfl k) ?_
    refine own_go (T' := T495) (g' := (mkF m 60 #[rv a, rv s_, iv (1 : Int32), iv c0, .unset] [(.int (1 : Int32)), (.ref s_)])) (fun t k => XS.iloadN X495.here hx rfl (hb hby own_d_prog_43_method_1_code_59) rfl k) ?_
    obtain ⟨cq496, kq496, q496a, q496b, q496c⟩ := isOf hZ E495q c481
    obtain ⟨_, _, ⟨T496, L496, k496, n496⟩, -, X496, ⟨Lc496, hQ496, l496, y496, z496⟩, st496⟩ := X495.virtualBack hx (y := (⟨"java/lang/String", "charAt", "(I)C"⟩ : MethodName)) (z := (⟨"java/lang/String", "charAt", "(I)C"⟩ : MethodName)) hown (mvT hZ (hw _ (List.mem_of_getElem? (i := 57) rfl))) (mvT hZ (hw _ (List.mem_of_getElem? (i := 58) rfl))) (notFace_of_selects (args := #[]) (mvT hZ (hw _ (List.mem_of_getElem? (i := 60) rfl)))) (mvT hZ (hw _ (List.mem_of_getElem? (i := 60) rfl))) (mvT hZ (hw _ (List.mem_of_getElem? (i := 59) rfl))) (by decide) (backOf (W := 0) (own_rca l Z a0 hw [] s_ b kb (1 : Int32) (3 : Int32) c1 cp [(.int c0), (.int c1), (.int c2)] fm h477 n0 hz477 c481 c482 c483 c484 (by decide) (by decide) rfl q1 c486 hcp c487 hfm) hZ (hw _ (List.mem_of_getElem? (i := 61) rfl)) (hw _ (List.mem_of_getElem? (i := 10) rfl)) (by decide) (by decide)) q496a q496c (g := (mkF m 60 #[rv a, rv s_, iv (1 : Int32), iv c0, .unset] [(.int (1 : Int32)), (.ref s_)])) rfl (by rw [hml]; rfl) (Steps.refl _) (argsL := [(.int (1 : Int32))]) (rest := []) (lenOf own_pd15 rfl) rfl (by show 2 * 0 + _ ≤ _; exact Nat.le_of_eq rfl) (hb hby own_d_prog_43_method_1_code_60) (fun _ _ => ⟨rfl, E495q, (by decide : 2 + 0 ≤ _), (by decide : 20 + 0 ≤ _)⟩)
    dsimp only [Pt.U, Pt.locs, Pt.cells, Pt.slots] at X496 l496 y496 z496 st496 hQ496
    subst l496 y496 z496
    obtain ⟨rfl, rfl, e496⟩ := hQ496
    have E496q : T496.heap = h477 := e496
    have N496 := Fr.app N495 (Fr.nil n0)
    refine own_go (T' := T496) (g' := (mkF m 63 #[rv a, rv s_, iv (1 : Int32), iv c0, .unset] [(.int c1)])) (fun t k => st496.trans k) ?_
    refine own_go (T' := T496) (g' := (mkF m 64 #[rv a, rv s_, iv (1 : Int32), iv c1, .unset] [])) (fun t k => XS.istoreN X496.here hx rfl (hb hby own_d_prog_43_method_1_code_63) rfl (l' := #[rv a, rv s_, iv (1 : Int32), iv c1, .unset]) rfl k) ?_
    refine own_go (T' := T496) (g' := (mkF m 65 #[rv a, rv s_, iv (1 : Int32), iv c1, .unset] [(.int c1)])) (fun t k => XS.iloadN X496.here hx rfl (hb hby own_d_prog_43_method_1_code_64) rfl k) ?_
    refine own_go (T' := T496) (g' := (mkF m 67 #[rv a, rv s_, iv (1 : Int32), iv c1, .unset] [(.int (31 : Int32)), (.int c1)])) (fun t k => XS.bipush X496.here hx rfl (hb hby own_d_prog_43_method_1_code_65) k) ?_
    refine own_go (T' := T496) (g' := (mkF m 70 #[rv a, rv s_, iv (1 : Int32), iv c1, .unset] [])) (fun t k => XS.icmpNo X496.here hx rfl (hb hby own_d_prog_43_method_1_code_67) rfl (tlt (own_c31 q1 : ((31 : Int32) < c1))).2.2.2 k) ?_
    refine own_go (T' := T496) (g' := (mkF m 71 #[rv a, rv s_, iv (1 : Int32), iv c1, .unset] [(.int c1)])) (fun t k => XS.iloadN X496.here hx rfl (hb hby own_d_prog_43_method_1_code_70) rfl k) ?_
    refine own_go (T' := T496) (g' := (mkF m 73 #[rv a, rv s_, iv (1 : Int32), iv c1, .unset] [(.int (127 : Int32)), (.int c1)])) (fun t k => XS.bipush X496.here hx rfl (hb hby own_d_prog_43_method_1_code_71) k) ?_
    refine own_go (T' := T496) (g' := (mkF m 76 #[rv a, rv s_, iv (1 : Int32), iv c1, .unset] [])) (fun t k => XS.icmpNo X496.here hx rfl (hb hby own_d_prog_43_method_1_code_73) rfl (tlt (own_c127 q1 : (c1 < (127 : Int32)))).2.1 k) ?_
    refine own_go (T' := T496) (g' := (mkF m 77 #[rv a, rv s_, iv (1 : Int32), iv c1, .unset] [(.int c1)])) (fun t k => XS.iloadN X496.here hx rfl (hb hby own_d_prog_43_method_1_code_76) rfl k) ?_
    refine own_go (T' := T496) (g' := (mkF m 79 #[rv a, rv s_, iv (1 : Int32), iv c1, .unset] [(.int (43 : Int32)), (.int c1)])) (fun t k => XS.bipush X496.here hx rfl (hb hby own_d_prog_43_method_1_code_77) k) ?_
    refine own_go (T' := T496) (g' := (mkF m 82 #[rv a, rv s_, iv (1 : Int32), iv c1, .unset] [])) (fun t k => XS.icmpNo X496.here hx rfl (hb hby own_d_prog_43_method_1_code_79) rfl (feq (own_cne q1 (by decide) : ¬ (c1 = (43 : Int32)))).1 k) ?_
    refine own_go (T' := T496) (g' := (mkF m 83 #[rv a, rv s_, iv (1 : Int32), iv c1, .unset] [(.int c1)])) (fun t k => XS.iloadN X496.here hx rfl (hb hby own_d_prog_43_method_1_code_82) rfl k) ?_
    refine own_go (T' := T496) (g' := (mkF m 85 #[rv a, rv s_, iv (1 : Int32), iv c1, .unset] [(.int (35 : Int32)), (.int c1)])) (fun t k => XS.bipush X496.here hx rfl (hb hby own_d_prog_43_method_1_code_83) k) ?_
    refine own_go (T' := T496) (g' := (mkF m 88 #[rv a, rv s_, iv (1 : Int32), iv c1, .unset] [])) (fun t k => XS.icmpNo X496.here hx rfl (hb hby own_d_prog_43_method_1_code_85) rfl (feq (own_cne q1 (by decide) : ¬ (c1 = (35 : Int32)))).1 k) ?_
    refine own_go (T' := T496) (g' := (mkF m 89 #[rv a, rv s_, iv (1 : Int32), iv c1, .unset] [(.int c1)])) (fun t k => XS.iloadN X496.here hx rfl (hb hby own_d_prog_43_method_1_code_88) rfl k) ?_
    refine own_go (T' := T496) (g' := (mkF m 91 #[rv a, rv s_, iv (1 : Int32), iv c1, .unset] [(.int (44 : Int32)), (.int c1)])) (fun t k => XS.bipush X496.here hx rfl (hb hby own_d_prog_43_method_1_code_89) k) ?_
    refine own_go (T' := T496) (g' := (mkF m 94 #[rv a, rv s_, iv (1 : Int32), iv c1, .unset] [])) (fun t k => XS.icmpNo X496.here hx rfl (hb hby own_d_prog_43_method_1_code_91) rfl (feq (own_cne q1 (by decide) : ¬ (c1 = (44 : Int32)))).1 k) ?_
    refine own_go (T' := T496) (g' := (mkF m 97 #[rv a, rv s_, iv (2 : Int32), iv c1, .unset] [])) (fun t k => XS.iinc X496.here hx rfl (hb hby own_d_prog_43_method_1_code_94) rfl (l' := #[rv a, rv s_, iv (2 : Int32), iv c1, .unset]) rfl k) ?_
    refine own_go (T' := T496) (g' := (mkF m 50 #[rv a, rv s_, iv (2 : Int32), iv c1, .unset] [])) (fun t k => XS.goto X496.here hx rfl (pc0 := 97) (pc' := 50) rfl (hb hby own_d_prog_43_method_1_code_97) (by decide) (by decide) k) ?_
    refine own_go (T' := T496) (g' := (mkF m 51 #[rv a, rv s_, iv (2 : Int32), iv c1, .unset] [(.int (2 : Int32))])) (fun t k => XS.iloadN X496.here hx rfl (hb hby own_d_prog_43_method_1_code_50) rfl k) ?_
    refine own_go (T' := T496) (g' := (mkF m 52 #[rv a, rv s_, iv (2 : Int32), iv c1, .unset] [(.ref s_), (.int (2 : Int32))])) (fun t k => XS.aloadN X496.here hx rfl (hb hby own_d_prog_43_method_1_code_51) rfl rfl k) ?_
    obtain ⟨cq497, kq497, q497a, q497b, q497c⟩ := isOf hZ E496q c481
    obtain ⟨_, _, ⟨T497, L497, k497, n497⟩, -, X497, ⟨Lc497, hQ497, l497, y497, z497⟩, st497⟩ := X496.virtualBack hx (y := (⟨"java/lang/String", "length", "()I"⟩ : MethodName)) (z := (⟨"java/lang/String", "length", "()I"⟩ : MethodName)) hown (mvT hZ (hw _ (List.mem_of_getElem? (i := 79) rfl))) (mvT hZ (hw _ (List.mem_of_getElem? (i := 80) rfl))) (notFace_of_selects (args := #[]) (mvT hZ (hw _ (List.mem_of_getElem? (i := 82) rfl)))) (mvT hZ (hw _ (List.mem_of_getElem? (i := 82) rfl))) (mvT hZ (hw _ (List.mem_of_getElem? (i := 81) rfl))) (by decide) (backOf (W := 1) (own_rln l Z a0 hw [] s_ b kb (3 : Int32) cp [(.int c0), (.int c1), (.int c2)] h477 n0 hz477 c481 c482 c483 c484 c486 hcp (by decide)) hZ (hw _ (List.mem_of_getElem? (i := 83) rfl)) (hw _ (List.mem_of_getElem? (i := 10) rfl)) (by decide) (by decide)) q497a q497c (g := (mkF m 52 #[rv a, rv s_, iv (2 : Int32), iv c1, .unset] [(.ref s_), (.int (2 : Int32))])) rfl (by rw [hml]; rfl) (Steps.refl _) (argsL := []) (rest := [(.int (2 : Int32))]) (lenOf own_pd16 rfl) rfl (by show 2 * 0 + _ ≤ _; exact Nat.le_of_eq rfl) (hb hby own_d_prog_43_method_1_code_52) (fun _ _ => ⟨rfl, E496q, (by decide : 2 + 0 ≤ _), (by decide : 20 + 0 ≤ _)⟩)
    dsimp only [Pt.U, Pt.locs, Pt.cells, Pt.slots] at X497 l497 y497 z497 st497 hQ497
    subst l497 y497 z497
    obtain ⟨rfl, rfl, e497⟩ := hQ497
    have E497q : T497.heap = h477 := e497
    have N497 := Fr.app N496 (Fr.nil n0)
    refine own_go (T' := T497) (g' := (mkF m 55 #[rv a, rv s_, iv (2 : Int32), iv c1, .unset] [(.int (3 : Int32)), (.int (2 : Int32))])) (fun t k => st497.trans k) ?_
    refine own_go (T' := T497) (g' := (mkF m 58 #[rv a, rv s_, iv (2 : Int32), iv c1, .unset] [])) (fun t k => XS.icmpNo X497.here hx rfl (hb hby own_d_prog_43_method_1_code_55) rfl (tlt (by decide : ((2 : Int32) < (3 : Int32)))).2.1 k) ?_
    refine own_go (T' := T497) (g' := (mkF m 59 #[rv a, rv s_, iv (2 : Int32), iv c1, .unset] [(.ref s_)])) (fun t k => XS.aloadN X497.here hx rfl (hb hby own_d_prog_43_method_1_code_58) rfl rfl k) ?_
    refine own_go (T' := T497) (g' := (mkF m 60 #[rv a, rv s_, iv (2 : Int32), iv c1, .unset] [(.int (2 : Int32)), (.ref s_)])) (fun t k => XS.iloadN X497.here hx rfl (hb hby own_d_prog_43_method_1_code_59) rfl k) ?_
    obtain ⟨cq498, kq498, q498a, q498b, q498c⟩ := isOf hZ E497q c481
    obtain ⟨_, _, ⟨T498, L498, k498, n498⟩, -, X498, ⟨Lc498, hQ498, l498, y498, z498⟩, st498⟩ := X497.virtualBack hx (y := (⟨"java/lang/String", "charAt", "(I)C"⟩ : MethodName)) (z := (⟨"java/lang/String", "charAt", "(I)C"⟩ : MethodName)) hown (mvT hZ (hw _ (List.mem_of_getElem? (i := 57) rfl))) (mvT hZ (hw _ (List.mem_of_getElem? (i := 58) rfl))) (notFace_of_selects (args := #[]) (mvT hZ (hw _ (List.mem_of_getElem? (i := 60) rfl)))) (mvT hZ (hw _ (List.mem_of_getElem? (i := 60) rfl))) (mvT hZ (hw _ (List.mem_of_getElem? (i := 59) rfl))) (by decide) (backOf (W := 0) (own_rca l Z a0 hw [] s_ b kb (2 : Int32) (3 : Int32) c2 cp [(.int c0), (.int c1), (.int c2)] fm h477 n0 hz477 c481 c482 c483 c484 (by decide) (by decide) rfl q2 c486 hcp c487 hfm) hZ (hw _ (List.mem_of_getElem? (i := 61) rfl)) (hw _ (List.mem_of_getElem? (i := 10) rfl)) (by decide) (by decide)) q498a q498c (g := (mkF m 60 #[rv a, rv s_, iv (2 : Int32), iv c1, .unset] [(.int (2 : Int32)), (.ref s_)])) rfl (by rw [hml]; rfl) (Steps.refl _) (argsL := [(.int (2 : Int32))]) (rest := []) (lenOf own_pd15 rfl) rfl (by show 2 * 0 + _ ≤ _; exact Nat.le_of_eq rfl) (hb hby own_d_prog_43_method_1_code_60) (fun _ _ => ⟨rfl, E497q, (by decide : 2 + 0 ≤ _), (by decide : 20 + 0 ≤ _)⟩)
    dsimp only [Pt.U, Pt.locs, Pt.cells, Pt.slots] at X498 l498 y498 z498 st498 hQ498
    subst l498 y498 z498
    obtain ⟨rfl, rfl, e498⟩ := hQ498
    have E498q : T498.heap = h477 := e498
    have N498 := Fr.app N497 (Fr.nil n0)
    refine own_go (T' := T498) (g' := (mkF m 63 #[rv a, rv s_, iv (2 : Int32), iv c1, .unset] [(.int c2)])) (fun t k => st498.trans k) ?_
    refine own_go (T' := T498) (g' := (mkF m 64 #[rv a, rv s_, iv (2 : Int32), iv c2, .unset] [])) (fun t k => XS.istoreN X498.here hx rfl (hb hby own_d_prog_43_method_1_code_63) rfl (l' := #[rv a, rv s_, iv (2 : Int32), iv c2, .unset]) rfl k) ?_
    refine own_go (T' := T498) (g' := (mkF m 65 #[rv a, rv s_, iv (2 : Int32), iv c2, .unset] [(.int c2)])) (fun t k => XS.iloadN X498.here hx rfl (hb hby own_d_prog_43_method_1_code_64) rfl k) ?_
    refine own_go (T' := T498) (g' := (mkF m 67 #[rv a, rv s_, iv (2 : Int32), iv c2, .unset] [(.int (31 : Int32)), (.int c2)])) (fun t k => XS.bipush X498.here hx rfl (hb hby own_d_prog_43_method_1_code_65) k) ?_
    refine own_go (T' := T498) (g' := (mkF m 70 #[rv a, rv s_, iv (2 : Int32), iv c2, .unset] [])) (fun t k => XS.icmpNo X498.here hx rfl (hb hby own_d_prog_43_method_1_code_67) rfl (tlt (own_c31 q2 : ((31 : Int32) < c2))).2.2.2 k) ?_
    refine own_go (T' := T498) (g' := (mkF m 71 #[rv a, rv s_, iv (2 : Int32), iv c2, .unset] [(.int c2)])) (fun t k => XS.iloadN X498.here hx rfl (hb hby own_d_prog_43_method_1_code_70) rfl k) ?_
    refine own_go (T' := T498) (g' := (mkF m 73 #[rv a, rv s_, iv (2 : Int32), iv c2, .unset] [(.int (127 : Int32)), (.int c2)])) (fun t k => XS.bipush X498.here hx rfl (hb hby own_d_prog_43_method_1_code_71) k) ?_
    refine own_go (T' := T498) (g' := (mkF m 76 #[rv a, rv s_, iv (2 : Int32), iv c2, .unset] [])) (fun t k => XS.icmpNo X498.here hx rfl (hb hby own_d_prog_43_method_1_code_73) rfl (tlt (own_c127 q2 : (c2 < (127 : Int32)))).2.1 k) ?_
    refine own_go (T' := T498) (g' := (mkF m 77 #[rv a, rv s_, iv (2 : Int32), iv c2, .unset] [(.int c2)])) (fun t k => XS.iloadN X498.here hx rfl (hb hby own_d_prog_43_method_1_code_76) rfl k) ?_
    refine own_go (T' := T498) (g' := (mkF m 79 #[rv a, rv s_, iv (2 : Int32), iv c2, .unset] [(.int (43 : Int32)), (.int c2)])) (fun t k => XS.bipush X498.here hx rfl (hb hby own_d_prog_43_method_1_code_77) k) ?_
    refine own_go (T' := T498) (g' := (mkF m 82 #[rv a, rv s_, iv (2 : Int32), iv c2, .unset] [])) (fun t k => XS.icmpNo X498.here hx rfl (hb hby own_d_prog_43_method_1_code_79) rfl (feq (own_cne q2 (by decide) : ¬ (c2 = (43 : Int32)))).1 k) ?_
    refine own_go (T' := T498) (g' := (mkF m 83 #[rv a, rv s_, iv (2 : Int32), iv c2, .unset] [(.int c2)])) (fun t k => XS.iloadN X498.here hx rfl (hb hby own_d_prog_43_method_1_code_82) rfl k) ?_
    refine own_go (T' := T498) (g' := (mkF m 85 #[rv a, rv s_, iv (2 : Int32), iv c2, .unset] [(.int (35 : Int32)), (.int c2)])) (fun t k => XS.bipush X498.here hx rfl (hb hby own_d_prog_43_method_1_code_83) k) ?_
    refine own_go (T' := T498) (g' := (mkF m 88 #[rv a, rv s_, iv (2 : Int32), iv c2, .unset] [])) (fun t k => XS.icmpNo X498.here hx rfl (hb hby own_d_prog_43_method_1_code_85) rfl (feq (own_cne q2 (by decide) : ¬ (c2 = (35 : Int32)))).1 k) ?_
    refine own_go (T' := T498) (g' := (mkF m 89 #[rv a, rv s_, iv (2 : Int32), iv c2, .unset] [(.int c2)])) (fun t k => XS.iloadN X498.here hx rfl (hb hby own_d_prog_43_method_1_code_88) rfl k) ?_
    refine own_go (T' := T498) (g' := (mkF m 91 #[rv a, rv s_, iv (2 : Int32), iv c2, .unset] [(.int (44 : Int32)), (.int c2)])) (fun t k => XS.bipush X498.here hx rfl (hb hby own_d_prog_43_method_1_code_89) k) ?_
    refine own_go (T' := T498) (g' := (mkF m 94 #[rv a, rv s_, iv (2 : Int32), iv c2, .unset] [])) (fun t k => XS.icmpNo X498.here hx rfl (hb hby own_d_prog_43_method_1_code_91) rfl (feq (own_cne q2 (by decide) : ¬ (c2 = (44 : Int32)))).1 k) ?_
    refine own_go (T' := T498) (g' := (mkF m 97 #[rv a, rv s_, iv (3 : Int32), iv c2, .unset] [])) (fun t k => XS.iinc X498.here hx rfl (hb hby own_d_prog_43_method_1_code_94) rfl (l' := #[rv a, rv s_, iv (3 : Int32), iv c2, .unset]) rfl k) ?_
    refine own_go (T' := T498) (g' := (mkF m 50 #[rv a, rv s_, iv (3 : Int32), iv c2, .unset] [])) (fun t k => XS.goto X498.here hx rfl (pc0 := 97) (pc' := 50) rfl (hb hby own_d_prog_43_method_1_code_97) (by decide) (by decide) k) ?_
    refine own_go (T' := T498) (g' := (mkF m 51 #[rv a, rv s_, iv (3 : Int32), iv c2, .unset] [(.int (3 : Int32))])) (fun t k => XS.iloadN X498.here hx rfl (hb hby own_d_prog_43_method_1_code_50) rfl k) ?_
    refine own_go (T' := T498) (g' := (mkF m 52 #[rv a, rv s_, iv (3 : Int32), iv c2, .unset] [(.ref s_), (.int (3 : Int32))])) (fun t k => XS.aloadN X498.here hx rfl (hb hby own_d_prog_43_method_1_code_51) rfl rfl k) ?_
    obtain ⟨cq499, kq499, q499a, q499b, q499c⟩ := isOf hZ E498q c481
    obtain ⟨_, _, ⟨T499, L499, k499, n499⟩, -, X499, ⟨Lc499, hQ499, l499, y499, z499⟩, st499⟩ := X498.virtualBack hx (y := (⟨"java/lang/String", "length", "()I"⟩ : MethodName)) (z := (⟨"java/lang/String", "length", "()I"⟩ : MethodName)) hown (mvT hZ (hw _ (List.mem_of_getElem? (i := 79) rfl))) (mvT hZ (hw _ (List.mem_of_getElem? (i := 80) rfl))) (notFace_of_selects (args := #[]) (mvT hZ (hw _ (List.mem_of_getElem? (i := 82) rfl)))) (mvT hZ (hw _ (List.mem_of_getElem? (i := 82) rfl))) (mvT hZ (hw _ (List.mem_of_getElem? (i := 81) rfl))) (by decide) (backOf (W := 1) (own_rln l Z a0 hw [] s_ b kb (3 : Int32) cp [(.int c0), (.int c1), (.int c2)] h477 n0 hz477 c481 c482 c483 c484 c486 hcp (by decide)) hZ (hw _ (List.mem_of_getElem? (i := 83) rfl)) (hw _ (List.mem_of_getElem? (i := 10) rfl)) (by decide) (by decide)) q499a q499c (g := (mkF m 52 #[rv a, rv s_, iv (3 : Int32), iv c2, .unset] [(.ref s_), (.int (3 : Int32))])) rfl (by rw [hml]; rfl) (Steps.refl _) (argsL := []) (rest := [(.int (3 : Int32))]) (lenOf own_pd16 rfl) rfl (by show 2 * 0 + _ ≤ _; exact Nat.le_of_eq rfl) (hb hby own_d_prog_43_method_1_code_52) (fun _ _ => ⟨rfl, E498q, (by decide : 2 + 0 ≤ _), (by decide : 20 + 0 ≤ _)⟩)
    dsimp only [Pt.U, Pt.locs, Pt.cells, Pt.slots] at X499 l499 y499 z499 st499 hQ499
    subst l499 y499 z499
    obtain ⟨rfl, rfl, e499⟩ := hQ499
    have E499q : T499.heap = h477 := e499
    have N499 := Fr.app N498 (Fr.nil n0)
    refine own_go (T' := T499) (g' := (mkF m 55 #[rv a, rv s_, iv (3 : Int32), iv c2, .unset] [(.int (3 : Int32)), (.int (3 : Int32))])) (fun t k => st499.trans k) ?_
    refine own_go (T' := T499) (g' := (mkF m 124 #[rv a, rv s_, iv (3 : Int32), iv c2, .unset] [])) (fun t k => XS.icmpYes X499.here hx rfl (pc0 := 55) (pc' := 124) rfl (hb hby own_d_prog_43_method_1_code_55) rfl (flt (by decide : ¬ ((3 : Int32) < (3 : Int32)))).2.1 (by decide) (by decide) k) ?_
    refine own_go (T' := T499) (g' := (mkF m 125 #[rv a, rv s_, iv (3 : Int32), iv c2, .unset] [(.ref s_)])) (fun t k => XS.aloadN X499.here hx rfl (hb hby own_d_prog_43_method_1_code_124) rfl rfl k) ?_
    obtain ⟨T500, X500, e500, st500⟩ := getS2 X499 hx hZ hown (host := "") (Or.inl (hw _ (List.mem_of_getElem? (i := 89) rfl))) Via.refl E499q c488 (g := (mkF m 125 #[rv a, rv s_, iv (3 : Int32), iv c2, .unset] [(.ref s_)])) rfl (hb hby own_d_prog_43_method_1_code_125)
    refine own_go (T' := T500) (g' := (mkF m 128 #[rv a, rv s_, iv (3 : Int32), iv c2, .unset] [(.ref u8), (.ref s_)])) (st500) ?_
    obtain ⟨cq501, kq501, q501a, q501b, q501c⟩ := isOf hZ e500 c481
    obtain ⟨_, _, ⟨T501, L501, k501, n501⟩, -, X501, ⟨Lc501, hQ501, l501, y501, z501⟩, st501⟩ := X500.virtualBack hx (y := (⟨"java/lang/String", "getBytes", "(Ljava/nio/charset/Charset;)[B"⟩ : MethodName)) (z := (⟨"java/lang/String", "getBytes", "(Ljava/nio/charset/Charset;)[B"⟩ : MethodName)) hown (mvT hZ (hw _ (List.mem_of_getElem? (i := 91) rfl))) (mvT hZ (hw _ (List.mem_of_getElem? (i := 92) rfl))) (notFace_of_selects (args := #[]) (mvT hZ (hw _ (List.mem_of_getElem? (i := 94) rfl)))) (mvT hZ (hw _ (List.mem_of_getElem? (i := 94) rfl))) (mvT hZ (hw _ (List.mem_of_getElem? (i := 93) rfl))) (by decide) (backOf (W := 0) (own_rgb l Z a0 hw [] s_ b u8 kb (3 : Int32) cp [c0, c1, c2] h477 n0 hz477 c481 c482 c483 c484 c485 (Or.inr (Or.inr ⟨c0, c1, c2, rfl, rfl, q0, q1, q2⟩)) c486 hcp c488 c489) hZ (hw _ (List.mem_of_getElem? (i := 95) rfl)) (hw _ (List.mem_of_getElem? (i := 10) rfl)) (by decide) (by decide)) q501a q501c (g := (mkF m 128 #[rv a, rv s_, iv (3 : Int32), iv c2, .unset] [(.ref u8), (.ref s_)])) rfl (by rw [hml]; rfl) (Steps.refl _) (argsL := [(.ref u8)]) (rest := []) (lenOf own_pd17 rfl) rfl (by show 2 * 0 + _ ≤ _; exact Nat.le_of_eq rfl) (hb hby own_d_prog_43_method_1_code_128) (fun _ _ => ⟨rfl, e500, (by decide : 2 + 1 ≤ _), (by decide : 20 + 3 ≤ _)⟩)
    dsimp only [Pt.U, Pt.locs, Pt.cells, Pt.slots] at X501 l501 y501 z501 st501 hQ501
    subst l501 y501 z501
    obtain ⟨b_501, k_501, rfl, N501q, ob_501, K_501, V_501⟩ := hQ501
    have N501 := Fr.app N499 N501q
    have nq502 : a ≠ b_501 := Nat.ne_of_lt (Nat.lt_of_lt_of_le c478.lt ob_501)
    have nq503 : s_ ≠ b_501 := Nat.ne_of_lt (Nat.lt_of_lt_of_le c481.lt ob_501)
    have nq504 : b ≠ b_501 := Nat.ne_of_lt (Nat.lt_of_lt_of_le c484.lt ob_501)
    have oo_501 : h0.size ≤ b_501 := Nat.le_trans K477.1 ob_501
    have c505 := c478.keep K_501
    have c507 := c479.keep K_501 nin0
    have c508 := c480.keep K_501 nin0
    have c511 := c481.keep K_501
    have c512 := c482.keep K_501 nin0
    have c513 := c483.keep K_501 nin0
    have c514 := c484.keep K_501 nin0
    have c515 := c485.keep K_501
    have c516 := own_sta_keep c486 K_501 own_ns0
    have c517 := own_sta_keep c487 K_501 own_ns0
    have c518 := own_sta_keep c488 K_501 own_ns0
    have c519 := own_sta_keep c489 K_501 own_ns0
    have hz501 : n0 ≤ T501.heap.size := Nat.le_trans hz477 K_501.1
    have hkq501 : kS ≤ T501.heap.size := Nat.le_trans hk477 K_501.1
    have K501 := Keep.trans K477 K_501 all0
    refine own_go (T' := T501) (g' := (mkF m 131 #[rv a, rv s_, iv (3 : Int32), iv c2, .unset] [(.ref b_501)])) (fun t k => st501.trans k) ?_
    refine own_go (T' := T501) (g' := (mkF m 132 #[rv a, rv s_, iv (3 : Int32), rv b_501, .unset] [])) (fun t k => XS.astoreN X501.here hx rfl (hb hby own_d_prog_43_method_1_code_131) rfl rfl (l' := #[rv a, rv s_, iv (3 : Int32), rv b_501, .unset]) rfl k) ?_
    refine own_go (T' := T501) (g' := (mkF m 133 #[rv a, rv s_, iv (3 : Int32), rv b_501, .unset] [(.ref b_501)])) (fun t k => XS.aloadN X501.here hx rfl (hb hby own_d_prog_43_method_1_code_132) rfl rfl k) ?_
    obtain ⟨cl520, Ar520, -, Sz520, Nn520, -, -⟩ := id V_501
    refine own_go (T' := T501) (g' := (mkF m 134 #[rv a, rv s_, iv (3 : Int32), rv b_501, .unset] [(.int (3 : Int32))])) (fun t k => X501.arraylength hx (by exact Ar520.1) (State.isArrayOf_alike hZ.alike Ar520.2.1) (g := (mkF m 133 #[rv a, rv s_, iv (3 : Int32), rv b_501, .unset] [(.ref b_501)])) rfl rfl (hb hby own_d_prog_43_method_1_code_133) _ (by rw [len_of Sz520 Nn520]; exact k)) ?_
    refine own_go (T' := T501) (g' := (mkF m 136 #[rv a, rv s_, iv (3 : Int32), rv b_501, .unset] [(.int (65535 : Int32)), (.int (3 : Int32))])) (fun t k => X501.ldcInt hx hown (mvT hZ (hw _ (List.mem_of_getElem? (i := 120) rfl))) (g := (mkF m 134 #[rv a, rv s_, iv (3 : Int32), rv b_501, .unset] [(.int (3 : Int32))])) rfl (hb hby own_d_prog_43_method_1_code_134) _ k) ?_
    refine own_go (T' := T501) (g' := (mkF m 154 #[rv a, rv s_, iv (3 : Int32), rv b_501, .unset] [])) (fun t k => XS.icmpYes X501.here hx rfl (pc0 := 136) (pc' := 154) rfl (hb hby own_d_prog_43_method_1_code_136) rfl (flt (by decide : ¬ ((65535 : Int32) < (3 : Int32)))).2.2.2 (by decide) (by decide) k) ?_
    refine own_go (T' := T501) (g' := (mkF m 155 #[rv a, rv s_, iv (3 : Int32), rv b_501, .unset] [(.ref a)])) (fun t k => XS.aloadN X501.here hx rfl (hb hby own_d_prog_43_method_1_code_154) rfl rfl k) ?_
    refine own_go (T' := T501) (g' := (mkF m 156 #[rv a, rv s_, iv (3 : Int32), rv b_501, .unset] [(.ref s_), (.ref a)])) (fun t k => XS.aloadN X501.here hx rfl (hb hby own_d_prog_43_method_1_code_155) rfl rfl k) ?_
    obtain ⟨T521, h521, X521, e521, W521, st521⟩ := putF X501 hx hZ hown (host := "") (Or.inl (hw _ (List.mem_of_getElem? (i := 121) rfl))) Via.refl rfl c507 c505 (Or.inr ⟨(hw _ (List.mem_of_getElem? (i := 122) rfl)), rfl, hnm⟩) (hw _ (List.mem_of_getElem? (i := 39) rfl)) (ty := (.object "java/lang/String")) (by decide) rfl rfl (g := (mkF m 156 #[rv a, rv s_, iv (3 : Int32), rv b_501, .unset] [(.ref s_), (.ref a)])) rfl rfl (hb hby own_d_prog_43_method_1_code_156)
    have hz521 : n0 ≤ h521.size := Nat.le_trans hz501 (Keep.of_wr W521).1
    have hkE521 : kS ≤ h521.size := Nat.le_trans hkq501 (Keep.of_wr W521).1
    have N521 := Fr.snoc X521 N501 g_a
    have K521 := K501.wr W521 (Or.inl (List.mem_of_getElem? (i := 0) rfl))
    have c522 := c505.wr W521
    have c523 := c507.same W521
    have c524 := c508.other W521 (Or.inr (slot_ne (Or.inr (hw _ (List.mem_of_getElem? (i := 124) rfl))) (Or.inr (hw _ (List.mem_of_getElem? (i := 122) rfl))) (by decide) (t := (.array .byte)) (t' := (.object "java/lang/String")) (by decide) (by decide)))
    have c525 := c511.wr W521
    have c526 := c512.other W521 (Or.inl n_sa)
    have c527 := c513.other W521 (Or.inl n_sa)
    have c528 := c514.other W521 n_ba
    have c529 := c515.wr W521
    have c530 := c516.wr W521
    have c531 := c517.wr W521
    have c532 := c518.wr W521
    have c533 := c519.wr W521
    have c534 := V_501.other W521 (Ne.symm nq502)
    refine own_go (T' := T521) (g' := (mkF m 159 #[rv a, rv s_, iv (3 : Int32), rv b_501, .unset] [])) (st521) ?_
    refine own_go (T' := T521) (g' := (mkF m 160 #[rv a, rv s_, iv (3 : Int32), rv b_501, .unset] [(.ref a)])) (fun t k => XS.aloadN X521.here hx rfl (hb hby own_d_prog_43_method_1_code_159) rfl rfl k) ?_
    refine own_go (T' := T521) (g' := (mkF m 161 #[rv a, rv s_, iv (3 : Int32), rv b_501, .unset] [(.ref b_501), (.ref a)])) (fun t k => XS.aloadN X521.here hx rfl (hb hby own_d_prog_43_method_1_code_160) rfl rfl k) ?_
    obtain ⟨T535, h535, X535, e535, W535, st535⟩ := putF X521 hx hZ hown (host := "") (Or.inl (hw _ (List.mem_of_getElem? (i := 123) rfl))) Via.refl e521 c524 c522 (Or.inr ⟨(hw _ (List.mem_of_getElem? (i := 124) rfl)), rfl, hnm⟩) (hw _ (List.mem_of_getElem? (i := 39) rfl)) (ty := (.array .byte)) (by decide) rfl rfl (g := (mkF m 161 #[rv a, rv s_, iv (3 : Int32), rv b_501, .unset] [(.ref b_501), (.ref a)])) rfl rfl (hb hby own_d_prog_43_method_1_code_161)
    have hz535 : n0 ≤ h535.size := Nat.le_trans hz521 (Keep.of_wr W535).1
    have hkE535 : kS ≤ h535.size := Nat.le_trans hkE521 (Keep.of_wr W535).1
    have N535 := Fr.snoc X535 N521 g_a
    have K535 := K521.wr W535 (Or.inl (List.mem_of_getElem? (i := 0) rfl))
    have c536 := c522.wr W535
    have c537 := c523.other W535 (Or.inr (slot_ne (Or.inr (hw _ (List.mem_of_getElem? (i := 122) rfl))) (Or.inr (hw _ (List.mem_of_getElem? (i := 124) rfl))) (by decide) (t := (.object "java/lang/String")) (t' := (.array .byte)) (by decide) (by decide)))
    have c538 := c524.same W535
    have c539 := c525.wr W535
    have c540 := c526.other W535 (Or.inl n_sa)
    have c541 := c527.other W535 (Or.inl n_sa)
    have c542 := c528.other W535 n_ba
    have c543 := c529.wr W535
    have c544 := c530.wr W535
    have c545 := c531.wr W535
    have c546 := c532.wr W535
    have c547 := c533.wr W535
    have c548 := c534.other W535 (Ne.symm nq502)
    refine own_go (T' := T535) (g' := (mkF m 164 #[rv a, rv s_, iv (3 : Int32), rv b_501, .unset] [])) (st535) ?_
    exact own_ret0W X535 hS (by rw [e535]; exact hkE535) hlk hx Bd.returns (hb hby own_d_prog_43_method_1_code_164) (by rw [e535]; exact ⟨rfl, N535, K535, c536, c537⟩) (by decide) (by decide)

theorem own_d_jdk_43_method_13_code_0 : decode jdk_43_method_13_code 0 = .ok (.aload_n 0, 1) := by decide +kernel
theorem own_d_jdk_43_method_13_code_1 : decode jdk_43_method_13_code 1 = .ok (.arraylength, 1) := by decide +kernel
theorem own_d_jdk_43_method_13_code_2 : decode jdk_43_method_13_code 2 = .ok (.aload_n 1, 1) := by decide +kernel
theorem own_d_jdk_43_method_13_code_3 : decode jdk_43_method_13_code 3 = .ok (.arraylength, 1) := by decide +kernel
theorem own_d_jdk_43_method_13_code_4 : decode jdk_43_method_13_code 4 = .ok (.if_icmp .ne 30, 3) := by decide +kernel
theorem own_d_jdk_43_method_13_code_7 : decode jdk_43_method_13_code 7 = .ok (.iconst 0, 1) := by decide +kernel
theorem own_d_jdk_43_method_13_code_8 : decode jdk_43_method_13_code 8 = .ok (.istore_n 2, 1) := by decide +kernel
theorem own_d_jdk_43_method_13_code_9 : decode jdk_43_method_13_code 9 = .ok (.iload_n 2, 1) := by decide +kernel
theorem own_d_jdk_43_method_13_code_10 : decode jdk_43_method_13_code 10 = .ok (.aload_n 0, 1) := by decide +kernel
theorem own_d_jdk_43_method_13_code_11 : decode jdk_43_method_13_code 11 = .ok (.arraylength, 1) := by decide +kernel
theorem own_d_jdk_43_method_13_code_12 : decode jdk_43_method_13_code 12 = .ok (.if_icmp .ge 20, 3) := by decide +kernel
theorem own_d_jdk_43_method_13_code_15 : decode jdk_43_method_13_code 15 = .ok (.aload_n 0, 1) := by decide +kernel
theorem own_d_jdk_43_method_13_code_16 : decode jdk_43_method_13_code 16 = .ok (.iload_n 2, 1) := by decide +kernel
theorem own_d_jdk_43_method_13_code_17 : decode jdk_43_method_13_code 17 = .ok (.baload, 1) := by decide +kernel
theorem own_d_jdk_43_method_13_code_18 : decode jdk_43_method_13_code 18 = .ok (.aload_n 1, 1) := by decide +kernel
theorem own_d_jdk_43_method_13_code_19 : decode jdk_43_method_13_code 19 = .ok (.iload_n 2, 1) := by decide +kernel
theorem own_d_jdk_43_method_13_code_20 : decode jdk_43_method_13_code 20 = .ok (.baload, 1) := by decide +kernel
theorem own_d_jdk_43_method_13_code_21 : decode jdk_43_method_13_code 21 = .ok (.if_icmp .eq 5, 3) := by decide +kernel
theorem own_d_jdk_43_method_13_code_24 : decode jdk_43_method_13_code 24 = .ok (.iconst 0, 1) := by decide +kernel
theorem own_d_jdk_43_method_13_code_25 : decode jdk_43_method_13_code 25 = .ok (.ireturn, 1) := by decide +kernel
theorem own_d_jdk_43_method_13_code_26 : decode jdk_43_method_13_code 26 = .ok (.iinc 2 1, 3) := by decide +kernel
theorem own_d_jdk_43_method_13_code_29 : decode jdk_43_method_13_code 29 = .ok (.goto (-20), 3) := by decide +kernel
theorem own_d_jdk_43_method_13_code_32 : decode jdk_43_method_13_code 32 = .ok (.iconst 1, 1) := by decide +kernel
theorem own_d_jdk_43_method_13_code_33 : decode jdk_43_method_13_code 33 = .ok (.ireturn, 1) := by decide +kernel
theorem own_d_jdk_43_method_13_code_34 : decode jdk_43_method_13_code 34 = .ok (.iconst 0, 1) := by decide +kernel
theorem own_d_jdk_43_method_13_code_35 : decode jdk_43_method_13_code 35 = .ok (.ireturn, 1) := by decide +kernel
def Q_own_rle (cs ds : List Int32) (h0 : Heap) (n0 : Nat) (v : Option Value) (h : Heap) (L : List Loc) : Prop := v = some (.int (own_eqv cs ds)) ∧ L = [] ∧ h = h0
set_option maxRecDepth 65536 in
set_option maxHeartbeats 40000000 in
theorem own_rle (l : Launch) (Z : State) (a0 : Array Value) (hw : ∀ d ∈ tables_1, d.before a0 Z = true) (ws : List Jvm.Cond) (b e_ : Addr) (kb ke : ClassId) (z w : Int32) (cs ds : List Int32) (h0 : Heap) (n0 : Nat) (Z0 : n0 ≤ h0.size) (V_b : Arv Z h0 b kb .byte z (cs.map Value.int) (.int (0 : Int32))) (V_e : Arv Z h0 e_ ke .byte w (ds.map Value.int) (.int (0 : Int32))) (ok : own_OK z cs) (ok2 : own_OK w ds) :
    MetFree l (⟨"java/lang/StringLatin1", "equals", "([B[B)Z"⟩ : MethodName) (head1 (Jvm.Cond.code (⟨"java/lang/StringLatin1", "equals", "([B[B)Z"⟩ : MethodName) jdk_43_method_13_code 3 (some .boolean) :: ws) ({ frames := 0, cells := 0, slots := 0, locals := 0 } : Room)) (fun au Uu => au = #[(.ref b), (.ref e_)] ∧ Z.Warmed39 Uu.vm ∧ Uu.heap = h0) (fun _ _ _ _ _ => True) (fun _ Uu ou Uw => ∃ vu Lu, ou = .returned vu ∧ Q_own_rle cs ds h0 n0 vu Uw.heap Lu ∧ FrameEnd Uu ou Uw Lu ({ frames := 0, cells := 0, slots := 0, locals := 0 } : Room).cells ({ frames := 0, cells := 0, slots := 0, locals := 0 } : Room).slots) := by
  refine MetFree.of_bodySF (plainFor_of_name (by first | (simp [plainName, overriddenIn]; done) | decide +kernel)) hisR ?_
  intro p e s m args below meth c s₁ Bd hml0 hP hK
  obtain ⟨rfl, hZ, hh⟩ := hP
  have hx := Bd.exec
  have hby := Bd.bytes
  have hlk := Bd.notSynchronized
  have hml : c.maxLocals = 3 := hml0
  have hown : s.vm.findClass "java/lang/StringLatin1" = some m.cls := findClass_of_methodNamed Bd.named
  have hnm := (name_of_methodNamed Bd.named Bd.method).1
  have X0 : Stand p l e ({ frames := 0, cells := 0, slots := 0, locals := 0 } : Room) s m #[(.ref b), (.ref e_)] below meth c s₁ [] 0 0 := Stand.of_body Bd
  have e0 : s₁.heap = h0 := by rw [← hh, Bd.state]; rfl
  have N0 := Fr.nil n0
  show own_Ends p e below s₁ (entryFrame m #[(.ref b), (.ref e_)] 3) (fun ou Uw => ∃ vu Lu, ou = .returned vu ∧ Q_own_rle cs ds h0 n0 vu Uw.heap Lu ∧ FrameEnd s ou Uw Lu ({ frames := 0, cells := 0, slots := 0, locals := 0 } : Room).cells ({ frames := 0, cells := 0, slots := 0, locals := 0 } : Room).slots)
  refine own_start (g' := (mkF m 0 #[rv b, rv e_, .unset] [])) (by first | (simp [entryFrame, mkF, argsToLocals, Value.category, iv, rv]; done) | rfl) ?_
  rcases ok with ⟨c0, rfl, rfl, q0⟩ | ⟨c0, c1, rfl, rfl, q0, q1⟩ | ⟨c0, c1, c2, rfl, rfl, q0, q1, q2⟩
  · have V549 : Arv Z h0 b kb .byte (1 : Int32) [(.int c0)] (.int (0 : Int32)) := V_b
    rcases ok2 with ⟨d0, rfl, rfl, r0⟩ | ⟨d0, d1, rfl, rfl, r0, r1⟩ | ⟨d0, d1, d2, rfl, rfl, r0, r1, r2⟩
    · have V550 : Arv Z h0 e_ ke .byte (1 : Int32) [(.int d0)] (.int (0 : Int32)) := V_e
      refine own_go (T' := s₁) (g' := (mkF m 1 #[rv b, rv e_, .unset] [(.ref b)])) (fun t k => XS.aloadN X0.here hx rfl (hb hby own_d_jdk_43_method_13_code_0) rfl rfl k) ?_
      obtain ⟨cl551, Ar551, -, Sz551, Nn551, -, -⟩ := id V549
      refine own_go (T' := s₁) (g' := (mkF m 2 #[rv b, rv e_, .unset] [(.int (1 : Int32))])) (fun t k => X0.arraylength hx (by rw [e0]; exact Ar551.1) (State.isArrayOf_alike hZ.alike Ar551.2.1) (g := (mkF m 1 #[rv b, rv e_, .unset] [(.ref b)])) rfl rfl (hb hby own_d_jdk_43_method_13_code_1) _ (by rw [len_of Sz551 Nn551]; exact k)) ?_
      refine own_go (T' := s₁) (g' := (mkF m 3 #[rv b, rv e_, .unset] [(.ref e_), (.int (1 : Int32))])) (fun t k => XS.aloadN X0.here hx rfl (hb hby own_d_jdk_43_method_13_code_2) rfl rfl k) ?_
      obtain ⟨cl552, Ar552, -, Sz552, Nn552, -, -⟩ := id V550
      refine own_go (T' := s₁) (g' := (mkF m 4 #[rv b, rv e_, .unset] [(.int (1 : Int32)), (.int (1 : Int32))])) (fun t k => X0.arraylength hx (by rw [e0]; exact Ar552.1) (State.isArrayOf_alike hZ.alike Ar552.2.1) (g := (mkF m 3 #[rv b, rv e_, .unset] [(.ref e_), (.int (1 : Int32))])) rfl rfl (hb hby own_d_jdk_43_method_13_code_3) _ (by rw [len_of Sz552 Nn552]; exact k)) ?_
      refine own_go (T' := s₁) (g' := (mkF m 7 #[rv b, rv e_, .unset] [])) (fun t k => XS.icmpNo X0.here hx rfl (hb hby own_d_jdk_43_method_13_code_4) rfl (teq (by decide : ((1 : Int32) = (1 : Int32)))).2 k) ?_
      refine own_go (T' := s₁) (g' := (mkF m 8 #[rv b, rv e_, .unset] [(.int (0 : Int32))])) (fun t k => XS.iconst X0.here hx rfl (hb hby own_d_jdk_43_method_13_code_7) k) ?_
      refine own_go (T' := s₁) (g' := (mkF m 9 #[rv b, rv e_, iv (0 : Int32)] [])) (fun t k => XS.istoreN X0.here hx rfl (hb hby own_d_jdk_43_method_13_code_8) rfl (l' := #[rv b, rv e_, iv (0 : Int32)]) rfl k) ?_
      refine own_go (T' := s₁) (g' := (mkF m 10 #[rv b, rv e_, iv (0 : Int32)] [(.int (0 : Int32))])) (fun t k => XS.iloadN X0.here hx rfl (hb hby own_d_jdk_43_method_13_code_9) rfl k) ?_
      refine own_go (T' := s₁) (g' := (mkF m 11 #[rv b, rv e_, iv (0 : Int32)] [(.ref b), (.int (0 : Int32))])) (fun t k => XS.aloadN X0.here hx rfl (hb hby own_d_jdk_43_method_13_code_10) rfl rfl k) ?_
      obtain ⟨cl553, Ar553, -, Sz553, Nn553, -, -⟩ := id V549
      refine own_go (T' := s₁) (g' := (mkF m 12 #[rv b, rv e_, iv (0 : Int32)] [(.int (1 : Int32)), (.int (0 : Int32))])) (fun t k => X0.arraylength hx (by rw [e0]; exact Ar553.1) (State.isArrayOf_alike hZ.alike Ar553.2.1) (g := (mkF m 11 #[rv b, rv e_, iv (0 : Int32)] [(.ref b), (.int (0 : Int32))])) rfl rfl (hb hby own_d_jdk_43_method_13_code_11) _ (by rw [len_of Sz553 Nn553]; exact k)) ?_
      refine own_go (T' := s₁) (g' := (mkF m 15 #[rv b, rv e_, iv (0 : Int32)] [])) (fun t k => XS.icmpNo X0.here hx rfl (hb hby own_d_jdk_43_method_13_code_12) rfl (tlt (by decide : ((0 : Int32) < (1 : Int32)))).2.1 k) ?_
      refine own_go (T' := s₁) (g' := (mkF m 16 #[rv b, rv e_, iv (0 : Int32)] [(.ref b)])) (fun t k => XS.aloadN X0.here hx rfl (hb hby own_d_jdk_43_method_13_code_15) rfl rfl k) ?_
      refine own_go (T' := s₁) (g' := (mkF m 17 #[rv b, rv e_, iv (0 : Int32)] [(.int (0 : Int32)), (.ref b)])) (fun t k => XS.iloadN X0.here hx rfl (hb hby own_d_jdk_43_method_13_code_16) rfl k) ?_
      obtain ⟨cl554, Ar554, -, Sz554, Nn554, Ha554, -⟩ := id V549
      have hin554 : ¬ ((0 : Int32) < 0 ∨ cl554.slots.size ≤ ((0 : Int32)).toNatClampNeg) := inb_of Sz554 ⟨by decide, by decide⟩
      have hat554 : cl554.slots[((0 : Int32)).toNatClampNeg]? = some (.int c0) := Ha554.at hin554 rfl
      refine own_go (T' := s₁) (g' := (mkF m 18 #[rv b, rv e_, iv (0 : Int32)] [(.int c0)])) (fun t k => X0.baloadBytes hx (j := (0 : Int32)) (v := (.int c0)) (by rw [e0]; exact Ar554.1) (State.isArrayOf_alike hZ.alike Ar554.2.1) Ar554.2.2 hin554 hat554 (g := (mkF m 17 #[rv b, rv e_, iv (0 : Int32)] [(.int (0 : Int32)), (.ref b)])) rfl rfl (hb hby own_d_jdk_43_method_13_code_17) _ k) ?_
      refine own_go (T' := s₁) (g' := (mkF m 19 #[rv b, rv e_, iv (0 : Int32)] [(.ref e_), (.int c0)])) (fun t k => XS.aloadN X0.here hx rfl (hb hby own_d_jdk_43_method_13_code_18) rfl rfl k) ?_
      refine own_go (T' := s₁) (g' := (mkF m 20 #[rv b, rv e_, iv (0 : Int32)] [(.int (0 : Int32)), (.ref e_), (.int c0)])) (fun t k => XS.iloadN X0.here hx rfl (hb hby own_d_jdk_43_method_13_code_19) rfl k) ?_
      obtain ⟨cl555, Ar555, -, Sz555, Nn555, Ha555, -⟩ := id V550
      have hin555 : ¬ ((0 : Int32) < 0 ∨ cl555.slots.size ≤ ((0 : Int32)).toNatClampNeg) := inb_of Sz555 ⟨by decide, by decide⟩
      have hat555 : cl555.slots[((0 : Int32)).toNatClampNeg]? = some (.int d0) := Ha555.at hin555 rfl
      refine own_go (T' := s₁) (g' := (mkF m 21 #[rv b, rv e_, iv (0 : Int32)] [(.int d0), (.int c0)])) (fun t k => X0.baloadBytes hx (j := (0 : Int32)) (v := (.int d0)) (by rw [e0]; exact Ar555.1) (State.isArrayOf_alike hZ.alike Ar555.2.1) Ar555.2.2 hin555 hat555 (g := (mkF m 20 #[rv b, rv e_, iv (0 : Int32)] [(.int (0 : Int32)), (.ref e_), (.int c0)])) rfl rfl (hb hby own_d_jdk_43_method_13_code_20) _ k) ?_
      by_cases hc556 : c0 = d0
      · refine own_go (T' := s₁) (g' := (mkF m 26 #[rv b, rv e_, iv (0 : Int32)] [])) (fun t k => XS.icmpYes X0.here hx rfl (pc0 := 21) (pc' := 26) rfl (hb hby own_d_jdk_43_method_13_code_21) rfl (teq hc556).1 (by decide) (by decide) k) ?_
        refine own_go (T' := s₁) (g' := (mkF m 29 #[rv b, rv e_, iv (1 : Int32)] [])) (fun t k => XS.iinc X0.here hx rfl (hb hby own_d_jdk_43_method_13_code_26) rfl (l' := #[rv b, rv e_, iv (1 : Int32)]) rfl k) ?_
        refine own_go (T' := s₁) (g' := (mkF m 9 #[rv b, rv e_, iv (1 : Int32)] [])) (fun t k => XS.goto X0.here hx rfl (pc0 := 29) (pc' := 9) rfl (hb hby own_d_jdk_43_method_13_code_29) (by decide) (by decide) k) ?_
        refine own_go (T' := s₁) (g' := (mkF m 10 #[rv b, rv e_, iv (1 : Int32)] [(.int (1 : Int32))])) (fun t k => XS.iloadN X0.here hx rfl (hb hby own_d_jdk_43_method_13_code_9) rfl k) ?_
        refine own_go (T' := s₁) (g' := (mkF m 11 #[rv b, rv e_, iv (1 : Int32)] [(.ref b), (.int (1 : Int32))])) (fun t k => XS.aloadN X0.here hx rfl (hb hby own_d_jdk_43_method_13_code_10) rfl rfl k) ?_
        obtain ⟨cl557, Ar557, -, Sz557, Nn557, -, -⟩ := id V549
        refine own_go (T' := s₁) (g' := (mkF m 12 #[rv b, rv e_, iv (1 : Int32)] [(.int (1 : Int32)), (.int (1 : Int32))])) (fun t k => X0.arraylength hx (by rw [e0]; exact Ar557.1) (State.isArrayOf_alike hZ.alike Ar557.2.1) (g := (mkF m 11 #[rv b, rv e_, iv (1 : Int32)] [(.ref b), (.int (1 : Int32))])) rfl rfl (hb hby own_d_jdk_43_method_13_code_11) _ (by rw [len_of Sz557 Nn557]; exact k)) ?_
        refine own_go (T' := s₁) (g' := (mkF m 32 #[rv b, rv e_, iv (1 : Int32)] [])) (fun t k => XS.icmpYes X0.here hx rfl (pc0 := 12) (pc' := 32) rfl (hb hby own_d_jdk_43_method_13_code_12) rfl (flt (by decide : ¬ ((1 : Int32) < (1 : Int32)))).2.1 (by decide) (by decide) k) ?_
        refine own_go (T' := s₁) (g' := (mkF m 33 #[rv b, rv e_, iv (1 : Int32)] [(.int (1 : Int32))])) (fun t k => XS.iconst X0.here hx rfl (hb hby own_d_jdk_43_method_13_code_32) k) ?_
        exact own_ret X0 hlk hx Bd.returns rfl (Or.inl ⟨rfl, Or.inr (Or.inl rfl), _, rfl⟩) (hb hby own_d_jdk_43_method_13_code_33) ⟨by simp [own_eqv, hc556], rfl, e0⟩ (by decide) (by decide)
      · refine own_go (T' := s₁) (g' := (mkF m 24 #[rv b, rv e_, iv (0 : Int32)] [])) (fun t k => XS.icmpNo X0.here hx rfl (hb hby own_d_jdk_43_method_13_code_21) rfl (feq hc556).1 k) ?_
        refine own_go (T' := s₁) (g' := (mkF m 25 #[rv b, rv e_, iv (0 : Int32)] [(.int (0 : Int32))])) (fun t k => XS.iconst X0.here hx rfl (hb hby own_d_jdk_43_method_13_code_24) k) ?_
        exact own_ret X0 hlk hx Bd.returns rfl (Or.inl ⟨rfl, Or.inr (Or.inl rfl), _, rfl⟩) (hb hby own_d_jdk_43_method_13_code_25) ⟨by simp [own_eqv, hc556], rfl, e0⟩ (by decide) (by decide)
    · have V558 : Arv Z h0 e_ ke .byte (2 : Int32) [(.int d0), (.int d1)] (.int (0 : Int32)) := V_e
      refine own_go (T' := s₁) (g' := (mkF m 1 #[rv b, rv e_, .unset] [(.ref b)])) (fun t k => XS.aloadN X0.here hx rfl (hb hby own_d_jdk_43_method_13_code_0) rfl rfl k) ?_
      obtain ⟨cl559, Ar559, -, Sz559, Nn559, -, -⟩ := id V549
      refine own_go (T' := s₁) (g' := (mkF m 2 #[rv b, rv e_, .unset] [(.int (1 : Int32))])) (fun t k => X0.arraylength hx (by rw [e0]; exact Ar559.1) (State.isArrayOf_alike hZ.alike Ar559.2.1) (g := (mkF m 1 #[rv b, rv e_, .unset] [(.ref b)])) rfl rfl (hb hby own_d_jdk_43_method_13_code_1) _ (by rw [len_of Sz559 Nn559]; exact k)) ?_
      refine own_go (T' := s₁) (g' := (mkF m 3 #[rv b, rv e_, .unset] [(.ref e_), (.int (1 : Int32))])) (fun t k => XS.aloadN X0.here hx rfl (hb hby own_d_jdk_43_method_13_code_2) rfl rfl k) ?_
      obtain ⟨cl560, Ar560, -, Sz560, Nn560, -, -⟩ := id V558
      refine own_go (T' := s₁) (g' := (mkF m 4 #[rv b, rv e_, .unset] [(.int (2 : Int32)), (.int (1 : Int32))])) (fun t k => X0.arraylength hx (by rw [e0]; exact Ar560.1) (State.isArrayOf_alike hZ.alike Ar560.2.1) (g := (mkF m 3 #[rv b, rv e_, .unset] [(.ref e_), (.int (1 : Int32))])) rfl rfl (hb hby own_d_jdk_43_method_13_code_3) _ (by rw [len_of Sz560 Nn560]; exact k)) ?_
      refine own_go (T' := s₁) (g' := (mkF m 34 #[rv b, rv e_, .unset] [])) (fun t k => XS.icmpYes X0.here hx rfl (pc0 := 4) (pc' := 34) rfl (hb hby own_d_jdk_43_method_13_code_4) rfl (feq (by decide : ¬ ((1 : Int32) = (2 : Int32)))).2 (by decide) (by decide) k) ?_
      refine own_go (T' := s₁) (g' := (mkF m 35 #[rv b, rv e_, .unset] [(.int (0 : Int32))])) (fun t k => XS.iconst X0.here hx rfl (hb hby own_d_jdk_43_method_13_code_34) k) ?_
      exact own_ret X0 hlk hx Bd.returns rfl (Or.inl ⟨rfl, Or.inr (Or.inl rfl), _, rfl⟩) (hb hby own_d_jdk_43_method_13_code_35) ⟨by simp [own_eqv], rfl, e0⟩ (by decide) (by decide)
    · have V561 : Arv Z h0 e_ ke .byte (3 : Int32) [(.int d0), (.int d1), (.int d2)] (.int (0 : Int32)) := V_e
      refine own_go (T' := s₁) (g' := (mkF m 1 #[rv b, rv e_, .unset] [(.ref b)])) (fun t k => XS.aloadN X0.here hx rfl (hb hby own_d_jdk_43_method_13_code_0) rfl rfl k) ?_
      obtain ⟨cl562, Ar562, -, Sz562, Nn562, -, -⟩ := id V549
      refine own_go (T' := s₁) (g' := (mkF m 2 #[rv b, rv e_, .unset] [(.int (1 : Int32))])) (fun t k => X0.arraylength hx (by rw [e0]; exact Ar562.1) (State.isArrayOf_alike hZ.alike Ar562.2.1) (g := (mkF m 1 #[rv b, rv e_, .unset] [(.ref b)])) rfl rfl (hb hby own_d_jdk_43_method_13_code_1) _ (by rw [len_of Sz562 Nn562]; exact k)) ?_
      refine own_go (T' := s₁) (g' := (mkF m 3 #[rv b, rv e_, .unset] [(.ref e_), (.int (1 : Int32))])) (fun t k => XS.aloadN X0.here hx rfl (hb hby own_d_jdk_43_method_13_code_2) rfl rfl k) ?_
      obtain ⟨cl563, Ar563, -, Sz563, Nn563, -, -⟩ := id V561
      refine own_go (T' := s₁) (g' := (mkF m 4 #[rv b, rv e_, .unset] [(.int (3 : Int32)), (.int (1 : Int32))])) (fun t k => X0.arraylength hx (by rw [e0]; exact Ar563.1) (State.isArrayOf_alike hZ.alike Ar563.2.1) (g := (mkF m 3 #[rv b, rv e_, .unset] [(.ref e_), (.int (1 : Int32))])) rfl rfl (hb hby own_d_jdk_43_method_13_code_3) _ (by rw [len_of Sz563 Nn563]; exact k)) ?_
      refine own_go (T' := s₁) (g' := (mkF m 34 #[rv b, rv e_, .unset] [])) (fun t k => XS.icmpYes X0.here hx rfl (pc0 := 4) (pc' := 34) rfl (hb hby own_d_jdk_43_method_13_code_4) rfl (feq (by decide : ¬ ((1 : Int32) = (3 : Int32)))).2 (by decide) (by decide) k) ?_
      refine own_go (T' := s₁) (g' := (mkF m 35 #[rv b, rv e_, .unset] [(.int (0 : Int32))])) (fun t k => XS.iconst X0.here hx rfl (hb hby own_d_jdk_43_method_13_code_34) k) ?_
      exact own_ret X0 hlk hx Bd.returns rfl (Or.inl ⟨rfl, Or.inr (Or.inl rfl), _, rfl⟩) (hb hby own_d_jdk_43_method_13_code_35) ⟨by simp [own_eqv], rfl, e0⟩ (by decide) (by decide)
  · have V564 : Arv Z h0 b kb .byte (2 : Int32) [(.int c0), (.int c1)] (.int (0 : Int32)) := V_b
    rcases ok2 with ⟨d0, rfl, rfl, r0⟩ | ⟨d0, d1, rfl, rfl, r0, r1⟩ | ⟨d0, d1, d2, rfl, rfl, r0, r1, r2⟩
    · have V565 : Arv Z h0 e_ ke .byte (1 : Int32) [(.int d0)] (.int (0 : Int32)) := V_e
      refine own_go (T' := s₁) (g' := (mkF m 1 #[rv b, rv e_, .unset] [(.ref b)])) (fun t k => XS.aloadN X0.here hx rfl (hb hby own_d_jdk_43_method_13_code_0) rfl rfl k) ?_
      obtain ⟨cl566, Ar566, -, Sz566, Nn566, -, -⟩ := id V564
      refine own_go (T' := s₁) (g' := (mkF m 2 #[rv b, rv e_, .unset] [(.int (2 : Int32))])) (fun t k => X0.arraylength hx (by rw [e0]; exact Ar566.1) (State.isArrayOf_alike hZ.alike Ar566.2.1) (g := (mkF m 1 #[rv b, rv e_, .unset] [(.ref b)])) rfl rfl (hb hby own_d_jdk_43_method_13_code_1) _ (by rw [len_of Sz566 Nn566]; exact k)) ?_
      refine own_go (T' := s₁) (g' := (mkF m 3 #[rv b, rv e_, .unset] [(.ref e_), (.int (2 : Int32))])) (fun t k => XS.aloadN X0.here hx rfl (hb hby own_d_jdk_43_method_13_code_2) rfl rfl k) ?_
      obtain ⟨cl567, Ar567, -, Sz567, Nn567, -, -⟩ := id V565
      refine own_go (T' := s₁) (g' := (mkF m 4 #[rv b, rv e_, .unset] [(.int (1 : Int32)), (.int (2 : Int32))])) (fun t k => X0.arraylength hx (by rw [e0]; exact Ar567.1) (State.isArrayOf_alike hZ.alike Ar567.2.1) (g := (mkF m 3 #[rv b, rv e_, .unset] [(.ref e_), (.int (2 : Int32))])) rfl rfl (hb hby own_d_jdk_43_method_13_code_3) _ (by rw [len_of Sz567 Nn567]; exact k)) ?_
      refine own_go (T' := s₁) (g' := (mkF m 34 #[rv b, rv e_, .unset] [])) (fun t k => XS.icmpYes X0.here hx rfl (pc0 := 4) (pc' := 34) rfl (hb hby own_d_jdk_43_method_13_code_4) rfl (feq (by decide : ¬ ((2 : Int32) = (1 : Int32)))).2 (by decide) (by decide) k) ?_
      refine own_go (T' := s₁) (g' := (mkF m 35 #[rv b, rv e_, .unset] [(.int (0 : Int32))])) (fun t k => XS.iconst X0.here hx rfl (hb hby own_d_jdk_43_method_13_code_34) k) ?_
      exact own_ret X0 hlk hx Bd.returns rfl (Or.inl ⟨rfl, Or.inr (Or.inl rfl), _, rfl⟩) (hb hby own_d_jdk_43_method_13_code_35) ⟨by simp [own_eqv], rfl, e0⟩ (by decide) (by decide)
    · have V568 : Arv Z h0 e_ ke .byte (2 : Int32) [(.int d0), (.int d1)] (.int (0 : Int32)) := V_e
      refine own_go (T' := s₁) (g' := (mkF m 1 #[rv b, rv e_, .unset] [(.ref b)])) (fun t k => XS.aloadN X0.here hx rfl (hb hby own_d_jdk_43_method_13_code_0) rfl rfl k) ?_
      obtain ⟨cl569, Ar569, -, Sz569, Nn569, -, -⟩ := id V564
      refine own_go (T' := s₁) (g' := (mkF m 2 #[rv b, rv e_, .unset] [(.int (2 : Int32))])) (fun t k => X0.arraylength hx (by rw [e0]; exact Ar569.1) (State.isArrayOf_alike hZ.alike Ar569.2.1) (g := (mkF m 1 #[rv b, rv e_, .unset] [(.ref b)])) rfl rfl (hb hby own_d_jdk_43_method_13_code_1) _ (by rw [len_of Sz569 Nn569]; exact k)) ?_
      refine own_go (T' := s₁) (g' := (mkF m 3 #[rv b, rv e_, .unset] [(.ref e_), (.int (2 : Int32))])) (fun t k => XS.aloadN X0.here hx rfl (hb hby own_d_jdk_43_method_13_code_2) rfl rfl k) ?_
      obtain ⟨cl570, Ar570, -, Sz570, Nn570, -, -⟩ := id V568
      refine own_go (T' := s₁) (g' := (mkF m 4 #[rv b, rv e_, .unset] [(.int (2 : Int32)), (.int (2 : Int32))])) (fun t k => X0.arraylength hx (by rw [e0]; exact Ar570.1) (State.isArrayOf_alike hZ.alike Ar570.2.1) (g := (mkF m 3 #[rv b, rv e_, .unset] [(.ref e_), (.int (2 : Int32))])) rfl rfl (hb hby own_d_jdk_43_method_13_code_3) _ (by rw [len_of Sz570 Nn570]; exact k)) ?_
      refine own_go (T' := s₁) (g' := (mkF m 7 #[rv b, rv e_, .unset] [])) (fun t k => XS.icmpNo X0.here hx rfl (hb hby own_d_jdk_43_method_13_code_4) rfl (teq (by decide : ((2 : Int32) = (2 : Int32)))).2 k) ?_
      refine own_go (T' := s₁) (g' := (mkF m 8 #[rv b, rv e_, .unset] [(.int (0 : Int32))])) (fun t k => XS.iconst X0.here hx rfl (hb hby own_d_jdk_43_method_13_code_7) k) ?_
      refine own_go (T' := s₁) (g' := (mkF m 9 #[rv b, rv e_, iv (0 : Int32)] [])) (fun t k => XS.istoreN X0.here hx rfl (hb hby own_d_jdk_43_method_13_code_8) rfl (l' := #[rv b, rv e_, iv (0 : Int32)]) rfl k) ?_
      refine own_go (T' := s₁) (g' := (mkF m 10 #[rv b, rv e_, iv (0 : Int32)] [(.int (0 : Int32))])) (fun t k => XS.iloadN X0.here hx rfl (hb hby own_d_jdk_43_method_13_code_9) rfl k) ?_
      refine own_go (T' := s₁) (g' := (mkF m 11 #[rv b, rv e_, iv (0 : Int32)] [(.ref b), (.int (0 : Int32))])) (fun t k => XS.aloadN X0.here hx rfl (hb hby own_d_jdk_43_method_13_code_10) rfl rfl k) ?_
      obtain ⟨cl571, Ar571, -, Sz571, Nn571, -, -⟩ := id V564
      refine own_go (T' := s₁) (g' := (mkF m 12 #[rv b, rv e_, iv (0 : Int32)] [(.int (2 : Int32)), (.int (0 : Int32))])) (fun t k => X0.arraylength hx (by rw [e0]; exact Ar571.1) (State.isArrayOf_alike hZ.alike Ar571.2.1) (g := (mkF m 11 #[rv b, rv e_, iv (0 : Int32)] [(.ref b), (.int (0 : Int32))])) rfl rfl (hb hby own_d_jdk_43_method_13_code_11) _ (by rw [len_of Sz571 Nn571]; exact k)) ?_
      refine own_go (T' := s₁) (g' := (mkF m 15 #[rv b, rv e_, iv (0 : Int32)] [])) (fun t k => XS.icmpNo X0.here hx rfl (hb hby own_d_jdk_43_method_13_code_12) rfl (tlt (by decide : ((0 : Int32) < (2 : Int32)))).2.1 k) ?_
      refine own_go (T' := s₁) (g' := (mkF m 16 #[rv b, rv e_, iv (0 : Int32)] [(.ref b)])) (fun t k => XS.aloadN X0.here hx rfl (hb hby own_d_jdk_43_method_13_code_15) rfl rfl k) ?_
      refine own_go (T' := s₁) (g' := (mkF m 17 #[rv b, rv e_, iv (0 : Int32)] [(.int (0 : Int32)), (.ref b)])) (fun t k => XS.iloadN X0.here hx rfl (hb hby own_d_jdk_43_method_13_code_16) rfl k) ?_
      obtain ⟨cl572, Ar572, -, Sz572, Nn572, Ha572, -⟩ := id V564
      have hin572 : ¬ ((0 : Int32) < 0 ∨ cl572.slots.size ≤ ((0 : Int32)).toNatClampNeg) := inb_of Sz572 ⟨by decide, by decide⟩
      have hat572 : cl572.slots[((0 : Int32)).toNatClampNeg]? = some (.int c0) := Ha572.at hin572 rfl
      refine own_go (T' := s₁) (g' := (mkF m 18 #[rv b, rv e_, iv (0 : Int32)] [(.int c0)])) (fun t k => X0.baloadBytes hx (j := (0 : Int32)) (v := (.int c0)) (by rw [e0]; exact Ar572.1) (State.isArrayOf_alike hZ.alike Ar572.2.1) Ar572.2.2 hin572 hat572 (g := (mkF m 17 #[rv b, rv e_, iv (0 : Int32)] [(.int (0 : Int32)), (.ref b)])) rfl rfl (hb hby own_d_jdk_43_method_13_code_17) _ k) ?_
      refine own_go (T' := s₁) (g' := (mkF m 19 #[rv b, rv e_, iv (0 : Int32)] [(.ref e_), (.int c0)])) (fun t k => XS.aloadN X0.here hx rfl (hb hby own_d_jdk_43_method_13_code_18) rfl rfl k) ?_
      refine own_go (T' := s₁) (g' := (mkF m 20 #[rv b, rv e_, iv (0 : Int32)] [(.int (0 : Int32)), (.ref e_), (.int c0)])) (fun t k => XS.iloadN X0.here hx rfl (hb hby own_d_jdk_43_method_13_code_19) rfl k) ?_
      obtain ⟨cl573, Ar573, -, Sz573, Nn573, Ha573, -⟩ := id V568
      have hin573 : ¬ ((0 : Int32) < 0 ∨ cl573.slots.size ≤ ((0 : Int32)).toNatClampNeg) := inb_of Sz573 ⟨by decide, by decide⟩
      have hat573 : cl573.slots[((0 : Int32)).toNatClampNeg]? = some (.int d0) := Ha573.at hin573 rfl
      refine own_go (T' := s₁) (g' := (mkF m 21 #[rv b, rv e_, iv (0 : Int32)] [(.int d0), (.int c0)])) (fun t k => X0.baloadBytes hx (j := (0 : Int32)) (v := (.int d0)) (by rw [e0]; exact Ar573.1) (State.isArrayOf_alike hZ.alike Ar573.2.1) Ar573.2.2 hin573 hat573 (g := (mkF m 20 #[rv b, rv e_, iv (0 : Int32)] [(.int (0 : Int32)), (.ref e_), (.int c0)])) rfl rfl (hb hby own_d_jdk_43_method_13_code_20) _ k) ?_
      by_cases hc574 : c0 = d0
      · refine own_go (T' := s₁) (g' := (mkF m 26 #[rv b, rv e_, iv (0 : Int32)] [])) (fun t k => XS.icmpYes X0.here hx rfl (pc0 := 21) (pc' := 26) rfl (hb hby own_d_jdk_43_method_13_code_21) rfl (teq hc574).1 (by decide) (by decide) k) ?_
        refine own_go (T' := s₁) (g' := (mkF m 29 #[rv b, rv e_, iv (1 : Int32)] [])) (fun t k => XS.iinc X0.here hx rfl (hb hby own_d_jdk_43_method_13_code_26) rfl (l' := #[rv b, rv e_, iv (1 : Int32)]) rfl k) ?_
        refine own_go (T' := s₁) (g' := (mkF m 9 #[rv b, rv e_, iv (1 : Int32)] [])) (fun t k => XS.goto X0.here hx rfl (pc0 := 29) (pc' := 9) rfl (hb hby own_d_jdk_43_method_13_code_29) (by decide) (by decide) k) ?_
        refine own_go (T' := s₁) (g' := (mkF m 10 #[rv b, rv e_, iv (1 : Int32)] [(.int (1 : Int32))])) (fun t k => XS.iloadN X0.here hx rfl (hb hby own_d_jdk_43_method_13_code_9) rfl k) ?_
        refine own_go (T' := s₁) (g' := (mkF m 11 #[rv b, rv e_, iv (1 : Int32)] [(.ref b), (.int (1 : Int32))])) (fun t k => XS.aloadN X0.here hx rfl (hb hby own_d_jdk_43_method_13_code_10) rfl rfl k) ?_
        obtain ⟨cl575, Ar575, -, Sz575, Nn575, -, -⟩ := id V564
        refine own_go (T' := s₁) (g' := (mkF m 12 #[rv b, rv e_, iv (1 : Int32)] [(.int (2 : Int32)), (.int (1 : Int32))])) (fun t k => X0.arraylength hx (by rw [e0]; exact Ar575.1) (State.isArrayOf_alike hZ.alike Ar575.2.1) (g := (mkF m 11 #[rv b, rv e_, iv (1 : Int32)] [(.ref b), (.int (1 : Int32))])) rfl rfl (hb hby own_d_jdk_43_method_13_code_11) _ (by rw [len_of Sz575 Nn575]; exact k)) ?_
        refine own_go (T' := s₁) (g' := (mkF m 15 #[rv b, rv e_, iv (1 : Int32)] [])) (fun t k => XS.icmpNo X0.here hx rfl (hb hby own_d_jdk_43_method_13_code_12) rfl (tlt (by decide : ((1 : Int32) < (2 : Int32)))).2.1 k) ?_
        refine own_go (T' := s₁) (g' := (mkF m 16 #[rv b, rv e_, iv (1 : Int32)] [(.ref b)])) (fun t k => XS.aloadN X0.here hx rfl (hb hby own_d_jdk_43_method_13_code_15) rfl rfl k) ?_
        refine own_go (T' := s₁) (g' := (mkF m 17 #[rv b, rv e_, iv (1 : Int32)] [(.int (1 : Int32)), (.ref b)])) (fun t k => XS.iloadN X0.here hx rfl (hb hby own_d_jdk_43_method_13_code_16) rfl k) ?_
        obtain ⟨cl576, Ar576, -, Sz576, Nn576, Ha576, -⟩ := id V564
        have hin576 : ¬ ((1 : Int32) < 0 ∨ cl576.slots.size ≤ ((1 : Int32)).toNatClampNeg) := inb_of Sz576 ⟨by decide, by decide⟩
        have hat576 : cl576.slots[((1 : Int32)).toNatClampNeg]? = some (.int c1) := Ha576.at hin576 rfl
        refine own_go (T' := s₁) (g' := (mkF m 18 #[rv b, rv e_, iv (1 : Int32)] [(.int c1)])) (fun t k => X0.baloadBytes hx (j := (1 : Int32)) (v := (.int c1)) (by rw [e0]; exact Ar576.1) (State.isArrayOf_alike hZ.alike Ar576.2.1) Ar576.2.2 hin576 hat576 (g := (mkF m 17 #[rv b, rv e_, iv (1 : Int32)] [(.int (1 : Int32)), (.ref b)])) rfl rfl (hb hby own_d_jdk_43_method_13_code_17) _ k) ?_
        refine own_go (T' := s₁) (g' := (mkF m 19 #[rv b, rv e_, iv (1 : Int32)] [(.ref e_), (.int c1)])) (fun t k => XS.aloadN X0.here hx rfl (hb hby own_d_jdk_43_method_13_code_18) rfl rfl k) ?_
        refine own_go (T' := s₁) (g' := (mkF m 20 #[rv b, rv e_, iv (1 : Int32)] [(.int (1 : Int32)), (.ref e_), (.int c1)])) (fun t k => XS.iloadN X0.here hx rfl (hb hby own_d_jdk_43_method_13_code_19) rfl k) ?_
        obtain ⟨cl577, Ar577, -, Sz577, Nn577, Ha577, -⟩ := id V568
        have hin577 : ¬ ((1 : Int32) < 0 ∨ cl577.slots.size ≤ ((1 : Int32)).toNatClampNeg) := inb_of Sz577 ⟨by decide, by decide⟩
        have hat577 : cl577.slots[((1 : Int32)).toNatClampNeg]? = some (.int d1) := Ha577.at hin577 rfl
        refine own_go (T' := s₁) (g' := (mkF m 21 #[rv b, rv e_, iv (1 : Int32)] [(.int d1), (.int c1)])) (fun t k => X0.baloadBytes hx (j := (1 : Int32)) (v := (.int d1)) (by rw [e0]; exact Ar577.1) (State.isArrayOf_alike hZ.alike Ar577.2.1) Ar577.2.2 hin577 hat577 (g := (mkF m 20 #[rv b, rv e_, iv (1 : Int32)] [(.int (1 : Int32)), (.ref e_), (.int c1)])) rfl rfl (hb hby own_d_jdk_43_method_13_code_20) _ k) ?_
        by_cases hc578 : c1 = d1
        · refine own_go (T' := s₁) (g' := (mkF m 26 #[rv b, rv e_, iv (1 : Int32)] [])) (fun t k => XS.icmpYes X0.here hx rfl (pc0 := 21) (pc' := 26) rfl (hb hby own_d_jdk_43_method_13_code_21) rfl (teq hc578).1 (by decide) (by decide) k) ?_
          refine own_go (T' := s₁) (g' := (mkF m 29 #[rv b, rv e_, iv (2 : Int32)] [])) (fun t k => XS.iinc X0.here hx rfl (hb hby own_d_jdk_43_method_13_code_26) rfl (l' := #[rv b, rv e_, iv (2 : Int32)]) rfl k) ?_
          refine own_go (T' := s₁) (g' := (mkF m 9 #[rv b, rv e_, iv (2 : Int32)] [])) (fun t k => XS.goto X0.here hx rfl (pc0 := 29) (pc' := 9) rfl (hb hby own_d_jdk_43_method_13_code_29) (by decide) (by decide) k) ?_
          refine own_go (T' := s₁) (g' := (mkF m 10 #[rv b, rv e_, iv (2 : Int32)] [(.int (2 : Int32))])) (fun t k => XS.iloadN X0.here hx rfl (hb hby own_d_jdk_43_method_13_code_9) rfl k) ?_
          refine own_go (T' := s₁) (g' := (mkF m 11 #[rv b, rv e_, iv (2 : Int32)] [(.ref b), (.int (2 : Int32))])) (fun t k => XS.aloadN X0.here hx rfl (hb hby own_d_jdk_43_method_13_code_10) rfl rfl k) ?_
          obtain ⟨cl579, Ar579, -, Sz579, Nn579, -, -⟩ := id V564
          refine own_go (T' := s₁) (g' := (mkF m 12 #[rv b, rv e_, iv (2 : Int32)] [(.int (2 : Int32)), (.int (2 : Int32))])) (fun t k => X0.arraylength hx (by rw [e0]; exact Ar579.1) (State.isArrayOf_alike hZ.alike Ar579.2.1) (g := (mkF m 11 #[rv b, rv e_, iv (2 : Int32)] [(.ref b), (.int (2 : Int32))])) rfl rfl (hb hby own_d_jdk_43_method_13_code_11) _ (by rw [len_of Sz579 Nn579]; exact k)) ?_
          refine own_go (T' := s₁) (g' := (mkF m 32 #[rv b, rv e_, iv (2 : Int32)] [])) (fun t k => XS.icmpYes X0.here hx rfl (pc0 := 12) (pc' := 32) rfl (hb hby own_d_jdk_43_method_13_code_12) rfl (flt (by decide : ¬ ((2 : Int32) < (2 : Int32)))).2.1 (by decide) (by decide) k) ?_
          refine own_go (T' := s₁) (g' := (mkF m 33 #[rv b, rv e_, iv (2 : Int32)] [(.int (1 : Int32))])) (fun t k => XS.iconst X0.here hx rfl (hb hby own_d_jdk_43_method_13_code_32) k) ?_
          exact own_ret X0 hlk hx Bd.returns rfl (Or.inl ⟨rfl, Or.inr (Or.inl rfl), _, rfl⟩) (hb hby own_d_jdk_43_method_13_code_33) ⟨by simp [own_eqv, hc574, hc578], rfl, e0⟩ (by decide) (by decide)
        · refine own_go (T' := s₁) (g' := (mkF m 24 #[rv b, rv e_, iv (1 : Int32)] [])) (fun t k => XS.icmpNo X0.here hx rfl (hb hby own_d_jdk_43_method_13_code_21) rfl (feq hc578).1 k) ?_
          refine own_go (T' := s₁) (g' := (mkF m 25 #[rv b, rv e_, iv (1 : Int32)] [(.int (0 : Int32))])) (fun t k => XS.iconst X0.here hx rfl (hb hby own_d_jdk_43_method_13_code_24) k) ?_
          exact own_ret X0 hlk hx Bd.returns rfl (Or.inl ⟨rfl, Or.inr (Or.inl rfl), _, rfl⟩) (hb hby own_d_jdk_43_method_13_code_25) ⟨by simp [own_eqv, hc574, hc578], rfl, e0⟩ (by decide) (by decide)
      · refine own_go (T' := s₁) (g' := (mkF m 24 #[rv b, rv e_, iv (0 : Int32)] [])) (fun t k => XS.icmpNo X0.here hx rfl (hb hby own_d_jdk_43_method_13_code_21) rfl (feq hc574).1 k) ?_
        refine own_go (T' := s₁) (g' := (mkF m 25 #[rv b, rv e_, iv (0 : Int32)] [(.int (0 : Int32))])) (fun t k => XS.iconst X0.here hx rfl (hb hby own_d_jdk_43_method_13_code_24) k) ?_
        exact own_ret X0 hlk hx Bd.returns rfl (Or.inl ⟨rfl, Or.inr (Or.inl rfl), _, rfl⟩) (hb hby own_d_jdk_43_method_13_code_25) ⟨by simp [own_eqv, hc574], rfl, e0⟩ (by decide) (by decide)
    · have V580 : Arv Z h0 e_ ke .byte (3 : Int32) [(.int d0), (.int d1), (.int d2)] (.int (0 : Int32)) := V_e
      refine own_go (T' := s₁) (g' := (mkF m 1 #[rv b, rv e_, .unset] [(.ref b)])) (fun t k => XS.aloadN X0.here hx rfl (hb hby own_d_jdk_43_method_13_code_0) rfl rfl k) ?_
      obtain ⟨cl581, Ar581, -, Sz581, Nn581, -, -⟩ := id V564
      refine own_go (T' := s₁) (g' := (mkF m 2 #[rv b, rv e_, .unset] [(.int (2 : Int32))])) (fun t k => X0.arraylength hx (by rw [e0]; exact Ar581.1) (State.isArrayOf_alike hZ.alike Ar581.2.1) (g := (mkF m 1 #[rv b, rv e_, .unset] [(.ref b)])) rfl rfl (hb hby own_d_jdk_43_method_13_code_1) _ (by rw [len_of Sz581 Nn581]; exact k)) ?_
      refine own_go (T' := s₁) (g' := (mkF m 3 #[rv b, rv e_, .unset] [(.ref e_), (.int (2 : Int32))])) (fun t k => XS.aloadN X0.here hx rfl (hb hby own_d_jdk_43_method_13_code_2) rfl rfl k) ?_
      obtain ⟨cl582, Ar582, -, Sz582, Nn582, -, -⟩ := id V580
      refine own_go (T' := s₁) (g' := (mkF m 4 #[rv b, rv e_, .unset] [(.int (3 : Int32)), (.int (2 : Int32))])) (fun t k => X0.arraylength hx (by rw [e0]; exact Ar582.1) (State.isArrayOf_alike hZ.alike Ar582.2.1) (g := (mkF m 3 #[rv b, rv e_, .unset] [(.ref e_), (.int (2 : Int32))])) rfl rfl (hb hby own_d_jdk_43_method_13_code_3) _ (by rw [len_of Sz582 Nn582]; exact k)) ?_
      refine own_go (T' := s₁) (g' := (mkF m 34 #[rv b, rv e_, .unset] [])) (fun t k => XS.icmpYes X0.here hx rfl (pc0 := 4) (pc' := 34) rfl (hb hby own_d_jdk_43_method_13_code_4) rfl (feq (by decide : ¬ ((2 : Int32) = (3 : Int32)))).2 (by decide) (by decide) k) ?_
      refine own_go (T' := s₁) (g' := (mkF m 35 #[rv b, rv e_, .unset] [(.int (0 : Int32))])) (fun t k => XS.iconst X0.here hx rfl (hb hby own_d_jdk_43_method_13_code_34) k) ?_
      exact own_ret X0 hlk hx Bd.returns rfl (Or.inl ⟨rfl, Or.inr (Or.inl rfl), _, rfl⟩) (hb hby own_d_jdk_43_method_13_code_35) ⟨by simp [own_eqv], rfl, e0⟩ (by decide) (by decide)
  · have V583 : Arv Z h0 b kb .byte (3 : Int32) [(.int c0), (.int c1), (.int c2)] (.int (0 : Int32)) := V_b
    rcases ok2 with ⟨d0, rfl, rfl, r0⟩ | ⟨d0, d1, rfl, rfl, r0, r1⟩ | ⟨d0, d1, d2, rfl, rfl, r0, r1, r2⟩
    · have V584 : Arv Z h0 e_ ke .byte (1 : Int32) [(.int d0)] (.int (0 : Int32)) := V_e
      refine own_go (T' := s₁) (g' := (mkF m 1 #[rv b, rv e_, .unset] [(.ref b)])) (fun t k => XS.aloadN X0.here hx rfl (hb hby own_d_jdk_43_method_13_code_0) rfl rfl k) ?_
      obtain ⟨cl585, Ar585, -, Sz585, Nn585, -, -⟩ := id V583
      refine own_go (T' := s₁) (g' := (mkF m 2 #[rv b, rv e_, .unset] [(.int (3 : Int32))])) (fun t k => X0.arraylength hx (by rw [e0]; exact Ar585.1) (State.isArrayOf_alike hZ.alike Ar585.2.1) (g := (mkF m 1 #[rv b, rv e_, .unset] [(.ref b)])) rfl rfl (hb hby own_d_jdk_43_method_13_code_1) _ (by rw [len_of Sz585 Nn585]; exact k)) ?_
      refine own_go (T' := s₁) (g' := (mkF m 3 #[rv b, rv e_, .unset] [(.ref e_), (.int (3 : Int32))])) (fun t k => XS.aloadN X0.here hx rfl (hb hby own_d_jdk_43_method_13_code_2) rfl rfl k) ?_
      obtain ⟨cl586, Ar586, -, Sz586, Nn586, -, -⟩ := id V584
      refine own_go (T' := s₁) (g' := (mkF m 4 #[rv b, rv e_, .unset] [(.int (1 : Int32)), (.int (3 : Int32))])) (fun t k => X0.arraylength hx (by rw [e0]; exact Ar586.1) (State.isArrayOf_alike hZ.alike Ar586.2.1) (g := (mkF m 3 #[rv b, rv e_, .unset] [(.ref e_), (.int (3 : Int32))])) rfl rfl (hb hby own_d_jdk_43_method_13_code_3) _ (by rw [len_of Sz586 Nn586]; exact k)) ?_
      refine own_go (T' := s₁) (g' := (mkF m 34 #[rv b, rv e_, .unset] [])) (fun t k => XS.icmpYes X0.here hx rfl (pc0 := 4) (pc' := 34) rfl (hb hby own_d_jdk_43_method_13_code_4) rfl (feq (by decide : ¬ ((3 : Int32) = (1 : Int32)))).2 (by decide) (by decide) k) ?_
      refine own_go (T' := s₁) (g' := (mkF m 35 #[rv b, rv e_, .unset] [(.int (0 : Int32))])) (fun t k => XS.iconst X0.here hx rfl (hb hby own_d_jdk_43_method_13_code_34) k) ?_
      exact own_ret X0 hlk hx Bd.returns rfl (Or.inl ⟨rfl, Or.inr (Or.inl rfl), _, rfl⟩) (hb hby own_d_jdk_43_method_13_code_35) ⟨by simp [own_eqv], rfl, e0⟩ (by decide) (by decide)
    · have V587 : Arv Z h0 e_ ke .byte (2 : Int32) [(.int d0), (.int d1)] (.int (0 : Int32)) := V_e
      refine own_go (T' := s₁) (g' := (mkF m 1 #[rv b, rv e_, .unset] [(.ref b)])) (fun t k => XS.aloadN X0.here hx rfl (hb hby own_d_jdk_43_method_13_code_0) rfl rfl k) ?_
      obtain ⟨cl588, Ar588, -, Sz588, Nn588, -, -⟩ := id V583
      refine own_go (T' := s₁) (g' := (mkF m 2 #[rv b, rv e_, .unset] [(.int (3 : Int32))])) (fun t k => X0.arraylength hx (by rw [e0]; exact Ar588.1) (State.isArrayOf_alike hZ.alike Ar588.2.1) (g := (mkF m 1 #[rv b, rv e_, .unset] [(.ref b)])) rfl rfl (hb hby own_d_jdk_43_method_13_code_1) _ (by rw [len_of Sz588 Nn588]; exact k)) ?_
      refine own_go (T' := s₁) (g' := (mkF m 3 #[rv b, rv e_, .unset] [(.ref e_), (.int (3 : Int32))])) (fun t k => XS.aloadN X0.here hx rfl (hb hby own_d_jdk_43_method_13_code_2) rfl rfl k) ?_
      obtain ⟨cl589, Ar589, -, Sz589, Nn589, -, -⟩ := id V587
      refine own_go (T' := s₁) (g' := (mkF m 4 #[rv b, rv e_, .unset] [(.int (2 : Int32)), (.int (3 : Int32))])) (fun t k => X0.arraylength hx (by rw [e0]; exact Ar589.1) (State.isArrayOf_alike hZ.alike Ar589.2.1) (g := (mkF m 3 #[rv b, rv e_, .unset] [(.ref e_), (.int (3 : Int32))])) rfl rfl (hb hby own_d_jdk_43_method_13_code_3) _ (by rw [len_of Sz589 Nn589]; exact k)) ?_
      refine own_go (T' := s₁) (g' := (mkF m 34 #[rv b, rv e_, .unset] [])) (fun t k => XS.icmpYes X0.here hx rfl (pc0 := 4) (pc' := 34) rfl (hb hby own_d_jdk_43_method_13_code_4) rfl (feq (by decide : ¬ ((3 : Int32) = (2 : Int32)))).2 (by decide) (by decide) k) ?_
      refine own_go (T' := s₁) (g' := (mkF m 35 #[rv b, rv e_, .unset] [(.int (0 : Int32))])) (fun t k => XS.iconst X0.here hx rfl (hb hby own_d_jdk_43_method_13_code_34) k) ?_
      exact own_ret X0 hlk hx Bd.returns rfl (Or.inl ⟨rfl, Or.inr (Or.inl rfl), _, rfl⟩) (hb hby own_d_jdk_43_method_13_code_35) ⟨by simp [own_eqv], rfl, e0⟩ (by decide) (by decide)
    · have V590 : Arv Z h0 e_ ke .byte (3 : Int32) [(.int d0), (.int d1), (.int d2)] (.int (0 : Int32)) := V_e
      refine own_go (T' := s₁) (g' := (mkF m 1 #[rv b, rv e_, .unset] [(.ref b)])) (fun t k => XS.aloadN X0.here hx rfl (hb hby own_d_jdk_43_method_13_code_0) rfl rfl k) ?_
      obtain ⟨cl591, Ar591, -, Sz591, Nn591, -, -⟩ := id V583
      refine own_go (T' := s₁) (g' := (mkF m 2 #[rv b, rv e_, .unset] [(.int (3 : Int32))])) (fun t k => X0.arraylength hx (by rw [e0]; exact Ar591.1) (State.isArrayOf_alike hZ.alike Ar591.2.1) (g := (mkF m 1 #[rv b, rv e_, .unset] [(.ref b)])) rfl rfl (hb hby own_d_jdk_43_method_13_code_1) _ (by rw [len_of Sz591 Nn591]; exact k)) ?_
      refine own_go (T' := s₁) (g' := (mkF m 3 #[rv b, rv e_, .unset] [(.ref e_), (.int (3 : Int32))])) (fun t k => XS.aloadN X0.here hx rfl (hb hby own_d_jdk_43_method_13_code_2) rfl rfl k) ?_
      obtain ⟨cl592, Ar592, -, Sz592, Nn592, -, -⟩ := id V590
      refine own_go (T' := s₁) (g' := (mkF m 4 #[rv b, rv e_, .unset] [(.int (3 : Int32)), (.int (3 : Int32))])) (fun t k => X0.arraylength hx (by rw [e0]; exact Ar592.1) (State.isArrayOf_alike hZ.alike Ar592.2.1) (g := (mkF m 3 #[rv b, rv e_, .unset] [(.ref e_), (.int (3 : Int32))])) rfl rfl (hb hby own_d_jdk_43_method_13_code_3) _ (by rw [len_of Sz592 Nn592]; exact k)) ?_
      refine own_go (T' := s₁) (g' := (mkF m 7 #[rv b, rv e_, .unset] [])) (fun t k => XS.icmpNo X0.here hx rfl (hb hby own_d_jdk_43_method_13_code_4) rfl (teq (by decide : ((3 : Int32) = (3 : Int32)))).2 k) ?_
      refine own_go (T' := s₁) (g' := (mkF m 8 #[rv b, rv e_, .unset] [(.int (0 : Int32))])) (fun t k => XS.iconst X0.here hx rfl (hb hby own_d_jdk_43_method_13_code_7) k) ?_
      refine own_go (T' := s₁) (g' := (mkF m 9 #[rv b, rv e_, iv (0 : Int32)] [])) (fun t k => XS.istoreN X0.here hx rfl (hb hby own_d_jdk_43_method_13_code_8) rfl (l' := #[rv b, rv e_, iv (0 : Int32)]) rfl k) ?_
      refine own_go (T' := s₁) (g' := (mkF m 10 #[rv b, rv e_, iv (0 : Int32)] [(.int (0 : Int32))])) (fun t k => XS.iloadN X0.here hx rfl (hb hby own_d_jdk_43_method_13_code_9) rfl k) ?_
      refine own_go (T' := s₁) (g' := (mkF m 11 #[rv b, rv e_, iv (0 : Int32)] [(.ref b), (.int (0 : Int32))])) (fun t k => XS.aloadN X0.here hx rfl (hb hby own_d_jdk_43_method_13_code_10) rfl rfl k) ?_
      obtain ⟨cl593, Ar593, -, Sz593, Nn593, -, -⟩ := id V583
      refine own_go (T' := s₁) (g' := (mkF m 12 #[rv b, rv e_, iv (0 : Int32)] [(.int (3 : Int32)), (.int (0 : Int32))])) (fun t k => X0.arraylength hx (by rw [e0]; exact Ar593.1) (State.isArrayOf_alike hZ.alike Ar593.2.1) (g := (mkF m 11 #[rv b, rv e_, iv (0 : Int32)] [(.ref b), (.int (0 : Int32))])) rfl rfl (hb hby own_d_jdk_43_method_13_code_11) _ (by rw [len_of Sz593 Nn593]; exact k)) ?_
      refine own_go (T' := s₁) (g' := (mkF m 15 #[rv b, rv e_, iv (0 : Int32)] [])) (fun t k => XS.icmpNo X0.here hx rfl (hb hby own_d_jdk_43_method_13_code_12) rfl (tlt (by decide : ((0 : Int32) < (3 : Int32)))).2.1 k) ?_
      refine own_go (T' := s₁) (g' := (mkF m 16 #[rv b, rv e_, iv (0 : Int32)] [(.ref b)])) (fun t k => XS.aloadN X0.here hx rfl (hb hby own_d_jdk_43_method_13_code_15) rfl rfl k) ?_
      refine own_go (T' := s₁) (g' := (mkF m 17 #[rv b, rv e_, iv (0 : Int32)] [(.int (0 : Int32)), (.ref b)])) (fun t k => XS.iloadN X0.here hx rfl (hb hby own_d_jdk_43_method_13_code_16) rfl k) ?_
      obtain ⟨cl594, Ar594, -, Sz594, Nn594, Ha594, -⟩ := id V583
      have hin594 : ¬ ((0 : Int32) < 0 ∨ cl594.slots.size ≤ ((0 : Int32)).toNatClampNeg) := inb_of Sz594 ⟨by decide, by decide⟩
      have hat594 : cl594.slots[((0 : Int32)).toNatClampNeg]? = some (.int c0) := Ha594.at hin594 rfl
      refine own_go (T' := s₁) (g' := (mkF m 18 #[rv b, rv e_, iv (0 : Int32)] [(.int c0)])) (fun t k => X0.baloadBytes hx (j := (0 : Int32)) (v := (.int c0)) (by rw [e0]; exact Ar594.1) (State.isArrayOf_alike hZ.alike Ar594.2.1) Ar594.2.2 hin594 hat594 (g := (mkF m 17 #[rv b, rv e_, iv (0 : Int32)] [(.int (0 : Int32)), (.ref b)])) rfl rfl (hb hby own_d_jdk_43_method_13_code_17) _ k) ?_
      refine own_go (T' := s₁) (g' := (mkF m 19 #[rv b, rv e_, iv (0 : Int32)] [(.ref e_), (.int c0)])) (fun t k => XS.aloadN X0.here hx rfl (hb hby own_d_jdk_43_method_13_code_18) rfl rfl k) ?_
      refine own_go (T' := s₁) (g' := (mkF m 20 #[rv b, rv e_, iv (0 : Int32)] [(.int (0 : Int32)), (.ref e_), (.int c0)])) (fun t k => XS.iloadN X0.here hx rfl (hb hby own_d_jdk_43_method_13_code_19) rfl k) ?_
      obtain ⟨cl595, Ar595, -, Sz595, Nn595, Ha595, -⟩ := id V590
      have hin595 : ¬ ((0 : Int32) < 0 ∨ cl595.slots.size ≤ ((0 : Int32)).toNatClampNeg) := inb_of Sz595 ⟨by decide, by decide⟩
      have hat595 : cl595.slots[((0 : Int32)).toNatClampNeg]? = some (.int d0) := Ha595.at hin595 rfl
      refine own_go (T' := s₁) (g' := (mkF m 21 #[rv b, rv e_, iv (0 : Int32)] [(.int d0), (.int c0)])) (fun t k => X0.baloadBytes hx (j := (0 : Int32)) (v := (.int d0)) (by rw [e0]; exact Ar595.1) (State.isArrayOf_alike hZ.alike Ar595.2.1) Ar595.2.2 hin595 hat595 (g := (mkF m 20 #[rv b, rv e_, iv (0 : Int32)] [(.int (0 : Int32)), (.ref e_), (.int c0)])) rfl rfl (hb hby own_d_jdk_43_method_13_code_20) _ k) ?_
      by_cases hc596 : c0 = d0
      · refine own_go (T' := s₁) (g' := (mkF m 26 #[rv b, rv e_, iv (0 : Int32)] [])) (fun t k => XS.icmpYes X0.here hx rfl (pc0 := 21) (pc' := 26) rfl (hb hby own_d_jdk_43_method_13_code_21) rfl (teq hc596).1 (by decide) (by decide) k) ?_
        refine own_go (T' := s₁) (g' := (mkF m 29 #[rv b, rv e_, iv (1 : Int32)] [])) (fun t k => XS.iinc X0.here hx rfl (hb hby own_d_jdk_43_method_13_code_26) rfl (l' := #[rv b, rv e_, iv (1 : Int32)]) rfl k) ?_
        refine own_go (T' := s₁) (g' := (mkF m 9 #[rv b, rv e_, iv (1 : Int32)] [])) (fun t k => XS.goto X0.here hx rfl (pc0 := 29) (pc' := 9) rfl (hb hby own_d_jdk_43_method_13_code_29) (by decide) (by decide) k) ?_
        refine own_go (T' := s₁) (g' := (mkF m 10 #[rv b, rv e_, iv (1 : Int32)] [(.int (1 : Int32))])) (fun t k => XS.iloadN X0.here hx rfl (hb hby own_d_jdk_43_method_13_code_9) rfl k) ?_
        refine own_go (T' := s₁) (g' := (mkF m 11 #[rv b, rv e_, iv (1 : Int32)] [(.ref b), (.int (1 : Int32))])) (fun t k => XS.aloadN X0.here hx rfl (hb hby own_d_jdk_43_method_13_code_10) rfl rfl k) ?_
        obtain ⟨cl597, Ar597, -, Sz597, Nn597, -, -⟩ := id V583
        refine own_go (T' := s₁) (g' := (mkF m 12 #[rv b, rv e_, iv (1 : Int32)] [(.int (3 : Int32)), (.int (1 : Int32))])) (fun t k => X0.arraylength hx (by rw [e0]; exact Ar597.1) (State.isArrayOf_alike hZ.alike Ar597.2.1) (g := (mkF m 11 #[rv b, rv e_, iv (1 : Int32)] [(.ref b), (.int (1 : Int32))])) rfl rfl (hb hby own_d_jdk_43_method_13_code_11) _ (by rw [len_of Sz597 Nn597]; exact k)) ?_
        refine own_go (T' := s₁) (g' := (mkF m 15 #[rv b, rv e_, iv (1 : Int32)] [])) (fun t k => XS.icmpNo X0.here hx rfl (hb hby own_d_jdk_43_method_13_code_12) rfl (tlt (by decide : ((1 : Int32) < (3 : Int32)))).2.1 k) ?_
        refine own_go (T' := s₁) (g' := (mkF m 16 #[rv b, rv e_, iv (1 : Int32)] [(.ref b)])) (fun t k => XS.aloadN X0.here hx rfl (hb hby own_d_jdk_43_method_13_code_15) rfl rfl k) ?_
        refine own_go (T' := s₁) (g' := (mkF m 17 #[rv b, rv e_, iv (1 : Int32)] [(.int (1 : Int32)), (.ref b)])) (fun t k => XS.iloadN X0.here hx rfl (hb hby own_d_jdk_43_method_13_code_16) rfl k) ?_
        obtain ⟨cl598, Ar598, -, Sz598, Nn598, Ha598, -⟩ := id V583
        have hin598 : ¬ ((1 : Int32) < 0 ∨ cl598.slots.size ≤ ((1 : Int32)).toNatClampNeg) := inb_of Sz598 ⟨by decide, by decide⟩
        have hat598 : cl598.slots[((1 : Int32)).toNatClampNeg]? = some (.int c1) := Ha598.at hin598 rfl
        refine own_go (T' := s₁) (g' := (mkF m 18 #[rv b, rv e_, iv (1 : Int32)] [(.int c1)])) (fun t k => X0.baloadBytes hx (j := (1 : Int32)) (v := (.int c1)) (by rw [e0]; exact Ar598.1) (State.isArrayOf_alike hZ.alike Ar598.2.1) Ar598.2.2 hin598 hat598 (g := (mkF m 17 #[rv b, rv e_, iv (1 : Int32)] [(.int (1 : Int32)), (.ref b)])) rfl rfl (hb hby own_d_jdk_43_method_13_code_17) _ k) ?_
        refine own_go (T' := s₁) (g' := (mkF m 19 #[rv b, rv e_, iv (1 : Int32)] [(.ref e_), (.int c1)])) (fun t k => XS.aloadN X0.here hx rfl (hb hby own_d_jdk_43_method_13_code_18) rfl rfl k) ?_
        refine own_go (T' := s₁) (g' := (mkF m 20 #[rv b, rv e_, iv (1 : Int32)] [(.int (1 : Int32)), (.ref e_), (.int c1)])) (fun t k => XS.iloadN X0.here hx rfl (hb hby own_d_jdk_43_method_13_code_19) rfl k) ?_
        obtain ⟨cl599, Ar599, -, Sz599, Nn599, Ha599, -⟩ := id V590
        have hin599 : ¬ ((1 : Int32) < 0 ∨ cl599.slots.size ≤ ((1 : Int32)).toNatClampNeg) := inb_of Sz599 ⟨by decide, by decide⟩
        have hat599 : cl599.slots[((1 : Int32)).toNatClampNeg]? = some (.int d1) := Ha599.at hin599 rfl
        refine own_go (T' := s₁) (g' := (mkF m 21 #[rv b, rv e_, iv (1 : Int32)] [(.int d1), (.int c1)])) (fun t k => X0.baloadBytes hx (j := (1 : Int32)) (v := (.int d1)) (by rw [e0]; exact Ar599.1) (State.isArrayOf_alike hZ.alike Ar599.2.1) Ar599.2.2 hin599 hat599 (g := (mkF m 20 #[rv b, rv e_, iv (1 : Int32)] [(.int (1 : Int32)), (.ref e_), (.int c1)])) rfl rfl (hb hby own_d_jdk_43_method_13_code_20) _ k) ?_
        by_cases hc600 : c1 = d1
        · refine own_go (T' := s₁) (g' := (mkF m 26 #[rv b, rv e_, iv (1 : Int32)] [])) (fun t k => XS.icmpYes X0.here hx rfl (pc0 := 21) (pc' := 26) rfl (hb hby own_d_jdk_43_method_13_code_21) rfl (teq hc600).1 (by decide) (by decide) k) ?_
          refine own_go (T' := s₁) (g' := (mkF m 29 #[rv b, rv e_, iv (2 : Int32)] [])) (fun t k => XS.iinc X0.here hx rfl (hb hby own_d_jdk_43_method_13_code_26) rfl (l' := #[rv b, rv e_, iv (2 : Int32)]) rfl k) ?_
          refine own_go (T' := s₁) (g' := (mkF m 9 #[rv b, rv e_, iv (2 : Int32)] [])) (fun t k => XS.goto X0.here hx rfl (pc0 := 29) (pc' := 9) rfl (hb hby own_d_jdk_43_method_13_code_29) (by decide) (by decide) k) ?_
          refine own_go (T' := s₁) (g' := (mkF m 10 #[rv b, rv e_, iv (2 : Int32)] [(.int (2 : Int32))])) (fun t k => XS.iloadN X0.here hx rfl (hb hby own_d_jdk_43_method_13_code_9) rfl k) ?_
          refine own_go (T' := s₁) (g' := (mkF m 11 #[rv b, rv e_, iv (2 : Int32)] [(.ref b), (.int (2 : Int32))])) (fun t k => XS.aloadN X0.here hx rfl (hb hby own_d_jdk_43_method_13_code_10) rfl rfl k) ?_
          obtain ⟨cl601, Ar601, -, Sz601, Nn601, -, -⟩ := id V583
          refine own_go (T' := s₁) (g' := (mkF m 12 #[rv b, rv e_, iv (2 : Int32)] [(.int (3 : Int32)), (.int (2 : Int32))])) (fun t k => X0.arraylength hx (by rw [e0]; exact Ar601.1) (State.isArrayOf_alike hZ.alike Ar601.2.1) (g := (mkF m 11 #[rv b, rv e_, iv (2 : Int32)] [(.ref b), (.int (2 : Int32))])) rfl rfl (hb hby own_d_jdk_43_method_13_code_11) _ (by rw [len_of Sz601 Nn601]; exact k)) ?_
          refine own_go (T' := s₁) (g' := (mkF m 15 #[rv b, rv e_, iv (2 : Int32)] [])) (fun t k => XS.icmpNo X0.here hx rfl (hb hby own_d_jdk_43_method_13_code_12) rfl (tlt (by decide : ((2 : Int32) < (3 : Int32)))).2.1 k) ?_
          refine own_go (T' := s₁) (g' := (mkF m 16 #[rv b, rv e_, iv (2 : Int32)] [(.ref b)])) (fun t k => XS.aloadN X0.here hx rfl (hb hby own_d_jdk_43_method_13_code_15) rfl rfl k) ?_
          refine own_go (T' := s₁) (g' := (mkF m 17 #[rv b, rv e_, iv (2 : Int32)] [(.int (2 : Int32)), (.ref b)])) (fun t k => XS.iloadN X0.here hx rfl (hb hby own_d_jdk_43_method_13_code_16) rfl k) ?_
          obtain ⟨cl602, Ar602, -, Sz602, Nn602, Ha602, -⟩ := id V583
          have hin602 : ¬ ((2 : Int32) < 0 ∨ cl602.slots.size ≤ ((2 : Int32)).toNatClampNeg) := inb_of Sz602 ⟨by decide, by decide⟩
          have hat602 : cl602.slots[((2 : Int32)).toNatClampNeg]? = some (.int c2) := Ha602.at hin602 rfl
          refine own_go (T' := s₁) (g' := (mkF m 18 #[rv b, rv e_, iv (2 : Int32)] [(.int c2)])) (fun t k => X0.baloadBytes hx (j := (2 : Int32)) (v := (.int c2)) (by rw [e0]; exact Ar602.1) (State.isArrayOf_alike hZ.alike Ar602.2.1) Ar602.2.2 hin602 hat602 (g := (mkF m 17 #[rv b, rv e_, iv (2 : Int32)] [(.int (2 : Int32)), (.ref b)])) rfl rfl (hb hby own_d_jdk_43_method_13_code_17) _ k) ?_
          refine own_go (T' := s₁) (g' := (mkF m 19 #[rv b, rv e_, iv (2 : Int32)] [(.ref e_), (.int c2)])) (fun t k => XS.aloadN X0.here hx rfl (hb hby own_d_jdk_43_method_13_code_18) rfl rfl k) ?_
          refine own_go (T' := s₁) (g' := (mkF m 20 #[rv b, rv e_, iv (2 : Int32)] [(.int (2 : Int32)), (.ref e_), (.int c2)])) (fun t k => XS.iloadN X0.here hx rfl (hb hby own_d_jdk_43_method_13_code_19) rfl k) ?_
          obtain ⟨cl603, Ar603, -, Sz603, Nn603, Ha603, -⟩ := id V590
          have hin603 : ¬ ((2 : Int32) < 0 ∨ cl603.slots.size ≤ ((2 : Int32)).toNatClampNeg) := inb_of Sz603 ⟨by decide, by decide⟩
          have hat603 : cl603.slots[((2 : Int32)).toNatClampNeg]? = some (.int d2) := Ha603.at hin603 rfl
          refine own_go (T' := s₁) (g' := (mkF m 21 #[rv b, rv e_, iv (2 : Int32)] [(.int d2), (.int c2)])) (fun t k => X0.baloadBytes hx (j := (2 : Int32)) (v := (.int d2)) (by rw [e0]; exact Ar603.1) (State.isArrayOf_alike hZ.alike Ar603.2.1) Ar603.2.2 hin603 hat603 (g := (mkF m 20 #[rv b, rv e_, iv (2 : Int32)] [(.int (2 : Int32)), (.ref e_), (.int c2)])) rfl rfl (hb hby own_d_jdk_43_method_13_code_20) _ k) ?_
          by_cases hc604 : c2 = d2
          · refine own_go (T' := s₁) (g' := (mkF m 26 #[rv b, rv e_, iv (2 : Int32)] [])) (fun t k => XS.icmpYes X0.here hx rfl (pc0 := 21) (pc' := 26) rfl (hb hby own_d_jdk_43_method_13_code_21) rfl (teq hc604).1 (by decide) (by decide) k) ?_
            refine own_go (T' := s₁) (g' := (mkF m 29 #[rv b, rv e_, iv (3 : Int32)] [])) (fun t k => XS.iinc X0.here hx rfl (hb hby own_d_jdk_43_method_13_code_26) rfl (l' := #[rv b, rv e_, iv (3 : Int32)]) rfl k) ?_
            refine own_go (T' := s₁) (g' := (mkF m 9 #[rv b, rv e_, iv (3 : Int32)] [])) (fun t k => XS.goto X0.here hx rfl (pc0 := 29) (pc' := 9) rfl (hb hby own_d_jdk_43_method_13_code_29) (by decide) (by decide) k) ?_
            refine own_go (T' := s₁) (g' := (mkF m 10 #[rv b, rv e_, iv (3 : Int32)] [(.int (3 : Int32))])) (fun t k => XS.iloadN X0.here hx rfl (hb hby own_d_jdk_43_method_13_code_9) rfl k) ?_
            refine own_go (T' := s₁) (g' := (mkF m 11 #[rv b, rv e_, iv (3 : Int32)] [(.ref b), (.int (3 : Int32))])) (fun t k => XS.aloadN X0.here hx rfl (hb hby own_d_jdk_43_method_13_code_10) rfl rfl k) ?_
            obtain ⟨cl605, Ar605, -, Sz605, Nn605, -, -⟩ := id V583
            refine own_go (T' := s₁) (g' := (mkF m 12 #[rv b, rv e_, iv (3 : Int32)] [(.int (3 : Int32)), (.int (3 : Int32))])) (fun t k => X0.arraylength hx (by rw [e0]; exact Ar605.1) (State.isArrayOf_alike hZ.alike Ar605.2.1) (g := (mkF m 11 #[rv b, rv e_, iv (3 : Int32)] [(.ref b), (.int (3 : Int32))])) rfl rfl (hb hby own_d_jdk_43_method_13_code_11) _ (by rw [len_of Sz605 Nn605]; exact k)) ?_
            refine own_go (T' := s₁) (g' := (mkF m 32 #[rv b, rv e_, iv (3 : Int32)] [])) (fun t k => XS.icmpYes X0.here hx rfl (pc0 := 12) (pc' := 32) rfl (hb hby own_d_jdk_43_method_13_code_12) rfl (flt (by decide : ¬ ((3 : Int32) < (3 : Int32)))).2.1 (by decide) (by decide) k) ?_
            refine own_go (T' := s₁) (g' := (mkF m 33 #[rv b, rv e_, iv (3 : Int32)] [(.int (1 : Int32))])) (fun t k => XS.iconst X0.here hx rfl (hb hby own_d_jdk_43_method_13_code_32) k) ?_
            exact own_ret X0 hlk hx Bd.returns rfl (Or.inl ⟨rfl, Or.inr (Or.inl rfl), _, rfl⟩) (hb hby own_d_jdk_43_method_13_code_33) ⟨by simp [own_eqv, hc596, hc600, hc604], rfl, e0⟩ (by decide) (by decide)
          · refine own_go (T' := s₁) (g' := (mkF m 24 #[rv b, rv e_, iv (2 : Int32)] [])) (fun t k => XS.icmpNo X0.here hx rfl (hb hby own_d_jdk_43_method_13_code_21) rfl (feq hc604).1 k) ?_
            refine own_go (T' := s₁) (g' := (mkF m 25 #[rv b, rv e_, iv (2 : Int32)] [(.int (0 : Int32))])) (fun t k => XS.iconst X0.here hx rfl (hb hby own_d_jdk_43_method_13_code_24) k) ?_
            exact own_ret X0 hlk hx Bd.returns rfl (Or.inl ⟨rfl, Or.inr (Or.inl rfl), _, rfl⟩) (hb hby own_d_jdk_43_method_13_code_25) ⟨by simp [own_eqv, hc596, hc600, hc604], rfl, e0⟩ (by decide) (by decide)
        · refine own_go (T' := s₁) (g' := (mkF m 24 #[rv b, rv e_, iv (1 : Int32)] [])) (fun t k => XS.icmpNo X0.here hx rfl (hb hby own_d_jdk_43_method_13_code_21) rfl (feq hc600).1 k) ?_
          refine own_go (T' := s₁) (g' := (mkF m 25 #[rv b, rv e_, iv (1 : Int32)] [(.int (0 : Int32))])) (fun t k => XS.iconst X0.here hx rfl (hb hby own_d_jdk_43_method_13_code_24) k) ?_
          exact own_ret X0 hlk hx Bd.returns rfl (Or.inl ⟨rfl, Or.inr (Or.inl rfl), _, rfl⟩) (hb hby own_d_jdk_43_method_13_code_25) ⟨by simp [own_eqv, hc596, hc600], rfl, e0⟩ (by decide) (by decide)
      · refine own_go (T' := s₁) (g' := (mkF m 24 #[rv b, rv e_, iv (0 : Int32)] [])) (fun t k => XS.icmpNo X0.here hx rfl (hb hby own_d_jdk_43_method_13_code_21) rfl (feq hc596).1 k) ?_
        refine own_go (T' := s₁) (g' := (mkF m 25 #[rv b, rv e_, iv (0 : Int32)] [(.int (0 : Int32))])) (fun t k => XS.iconst X0.here hx rfl (hb hby own_d_jdk_43_method_13_code_24) k) ?_
        exact own_ret X0 hlk hx Bd.returns rfl (Or.inl ⟨rfl, Or.inr (Or.inl rfl), _, rfl⟩) (hb hby own_d_jdk_43_method_13_code_25) ⟨by simp [own_eqv, hc596], rfl, e0⟩ (by decide) (by decide)

theorem own_d_jdk_42_method_66_code_0 : decode jdk_42_method_66_code 0 = .ok (.aload_n 0, 1) := by decide +kernel
theorem own_d_jdk_42_method_66_code_1 : decode jdk_42_method_66_code 1 = .ok (.aload_n 1, 1) := by decide +kernel
theorem own_d_jdk_42_method_66_code_2 : decode jdk_42_method_66_code 2 = .ok (.if_acmp .ne 5, 3) := by decide +kernel
theorem own_d_jdk_42_method_66_code_5 : decode jdk_42_method_66_code 5 = .ok (.iconst 1, 1) := by decide +kernel
theorem own_d_jdk_42_method_66_code_6 : decode jdk_42_method_66_code 6 = .ok (.ireturn, 1) := by decide +kernel
def Q_own_rse0  (h0 : Heap) (n0 : Nat) (v : Option Value) (h : Heap) (L : List Loc) : Prop := v = some (.int 1) ∧ L = [] ∧ h = h0
set_option maxRecDepth 65536 in
set_option maxHeartbeats 40000000 in
theorem own_rse0 (l : Launch) (Z : State) (a0 : Array Value) (hw : ∀ d ∈ tables_1, d.before a0 Z = true) (ws : List Jvm.Cond) (s_ : Addr) (h0 : Heap) (n0 : Nat) (Z0 : n0 ≤ h0.size)  :
    MetFree l (⟨"java/lang/String", "equals", "(Ljava/lang/Object;)Z"⟩ : MethodName) (head1 (Jvm.Cond.code (⟨"java/lang/String", "equals", "(Ljava/lang/Object;)Z"⟩ : MethodName) jdk_42_method_66_code 3 (some .boolean) :: ws) ({ frames := 0, cells := 0, slots := 0, locals := 0 } : Room)) (fun au Uu => au = #[(.ref s_), (.ref s_)] ∧ Z.Warmed39 Uu.vm ∧ Uu.heap = h0) (fun _ _ _ _ _ => True) (fun _ Uu ou Uw => ∃ vu Lu, ou = .returned vu ∧ Q_own_rse0  h0 n0 vu Uw.heap Lu ∧ FrameEnd Uu ou Uw Lu ({ frames := 0, cells := 0, slots := 0, locals := 0 } : Room).cells ({ frames := 0, cells := 0, slots := 0, locals := 0 } : Room).slots) := by
  refine MetFree.of_bodySF (plainFor_of_name (by first | (simp [plainName, overriddenIn]; done) | decide +kernel)) hisR ?_
  intro p e s m args below meth c s₁ Bd hml0 hP hK
  obtain ⟨rfl, hZ, hh⟩ := hP
  have hx := Bd.exec
  have hby := Bd.bytes
  have hlk := Bd.notSynchronized
  have hml : c.maxLocals = 3 := hml0
  have hown : s.vm.findClass "java/lang/String" = some m.cls := findClass_of_methodNamed Bd.named
  have hnm := (name_of_methodNamed Bd.named Bd.method).1
  have X0 : Stand p l e ({ frames := 0, cells := 0, slots := 0, locals := 0 } : Room) s m #[(.ref s_), (.ref s_)] below meth c s₁ [] 0 0 := Stand.of_body Bd
  have e0 : s₁.heap = h0 := by rw [← hh, Bd.state]; rfl
  have N0 := Fr.nil n0
  show own_Ends p e below s₁ (entryFrame m #[(.ref s_), (.ref s_)] 3) (fun ou Uw => ∃ vu Lu, ou = .returned vu ∧ Q_own_rse0  h0 n0 vu Uw.heap Lu ∧ FrameEnd s ou Uw Lu ({ frames := 0, cells := 0, slots := 0, locals := 0 } : Room).cells ({ frames := 0, cells := 0, slots := 0, locals := 0 } : Room).slots)
  refine own_start (g' := (mkF m 0 #[rv s_, rv s_, .unset] [])) (by first | (simp [entryFrame, mkF, argsToLocals, Value.category, iv, rv]; done) | rfl) ?_
  refine own_go (T' := s₁) (g' := (mkF m 1 #[rv s_, rv s_, .unset] [(.ref s_)])) (fun t k => XS.aloadN X0.here hx rfl (hb hby own_d_jdk_42_method_66_code_0) rfl rfl k) ?_
  refine own_go (T' := s₁) (g' := (mkF m 2 #[rv s_, rv s_, .unset] [(.ref s_), (.ref s_)])) (fun t k => XS.aloadN X0.here hx rfl (hb hby own_d_jdk_42_method_66_code_1) rfl rfl k) ?_
  refine own_go (T' := s₁) (g' := (mkF m 5 #[rv s_, rv s_, .unset] [])) (fun t k => Jvm.RoadKit.acmp (g := (mkF m 2 #[rv s_, rv s_, .unset] [(.ref s_), (.ref s_)])) X0 hx rfl (x := (.ref s_)) (y := (.ref s_)) rfl rfl (pc0 := 2) (pc' := 5) (same := true) rfl (hb hby own_d_jdk_42_method_66_code_2) rfl (decide_eq_true rfl) (by decide) (by decide) k) ?_
  refine own_go (T' := s₁) (g' := (mkF m 6 #[rv s_, rv s_, .unset] [(.int (1 : Int32))])) (fun t k => XS.iconst X0.here hx rfl (hb hby own_d_jdk_42_method_66_code_5) k) ?_
  exact own_ret X0 hlk hx Bd.returns rfl (Or.inl ⟨rfl, Or.inr (Or.inl rfl), _, rfl⟩) (hb hby own_d_jdk_42_method_66_code_6) ⟨rfl, rfl, e0⟩ (by decide) (by decide)

theorem own_pd18 : parseMethodDescriptor "([B[B)Z" = some ⟨[(.array .byte), (.array .byte)], some .boolean⟩ := by decide +kernel
theorem own_d_jdk_42_method_66_code_7 : decode jdk_42_method_66_code 7 = .ok (.aload_n 1, 1) := by decide +kernel
theorem own_d_jdk_42_method_66_code_8 : decode jdk_42_method_66_code 8 = .ok (.instanceof 10, 3) := by decide +kernel
theorem own_d_jdk_42_method_66_code_11 : decode jdk_42_method_66_code 11 = .ok (.ifCond .eq 43, 3) := by decide +kernel
theorem own_d_jdk_42_method_66_code_14 : decode jdk_42_method_66_code 14 = .ok (.aload_n 1, 1) := by decide +kernel
theorem own_d_jdk_42_method_66_code_15 : decode jdk_42_method_66_code 15 = .ok (.checkcast 10, 3) := by decide +kernel
theorem own_d_jdk_42_method_66_code_18 : decode jdk_42_method_66_code 18 = .ok (.astore_n 2, 1) := by decide +kernel
theorem own_d_jdk_42_method_66_code_19 : decode jdk_42_method_66_code 19 = .ok (.getstatic 38, 3) := by decide +kernel
theorem own_d_jdk_42_method_66_code_22 : decode jdk_42_method_66_code 22 = .ok (.ifCond .eq 14, 3) := by decide +kernel
theorem own_d_jdk_42_method_66_code_25 : decode jdk_42_method_66_code 25 = .ok (.aload_n 0, 1) := by decide +kernel
theorem own_d_jdk_42_method_66_code_26 : decode jdk_42_method_66_code 26 = .ok (.getfield 15, 3) := by decide +kernel
theorem own_d_jdk_42_method_66_code_29 : decode jdk_42_method_66_code 29 = .ok (.aload_n 2, 1) := by decide +kernel
theorem own_d_jdk_42_method_66_code_30 : decode jdk_42_method_66_code 30 = .ok (.getfield 15, 3) := by decide +kernel
theorem own_d_jdk_42_method_66_code_33 : decode jdk_42_method_66_code 33 = .ok (.if_icmp .ne 21, 3) := by decide +kernel
theorem own_d_jdk_42_method_66_code_36 : decode jdk_42_method_66_code 36 = .ok (.aload_n 0, 1) := by decide +kernel
theorem own_d_jdk_42_method_66_code_37 : decode jdk_42_method_66_code 37 = .ok (.getfield 9, 3) := by decide +kernel
theorem own_d_jdk_42_method_66_code_40 : decode jdk_42_method_66_code 40 = .ok (.aload_n 2, 1) := by decide +kernel
theorem own_d_jdk_42_method_66_code_41 : decode jdk_42_method_66_code 41 = .ok (.getfield 9, 3) := by decide +kernel
theorem own_d_jdk_42_method_66_code_44 : decode jdk_42_method_66_code 44 = .ok (.invokestatic 541, 3) := by decide +kernel
theorem own_d_jdk_42_method_66_code_47 : decode jdk_42_method_66_code 47 = .ok (.ifCond .eq 7, 3) := by decide +kernel
theorem own_d_jdk_42_method_66_code_50 : decode jdk_42_method_66_code 50 = .ok (.iconst 1, 1) := by decide +kernel
theorem own_d_jdk_42_method_66_code_51 : decode jdk_42_method_66_code 51 = .ok (.goto 4, 3) := by decide +kernel
theorem own_d_jdk_42_method_66_code_54 : decode jdk_42_method_66_code 54 = .ok (.iconst 0, 1) := by decide +kernel
theorem own_d_jdk_42_method_66_code_55 : decode jdk_42_method_66_code 55 = .ok (.ireturn, 1) := by decide +kernel
def Q_own_rse1 (cs ds : List Int32) (h0 : Heap) (n0 : Nat) (v : Option Value) (h : Heap) (L : List Loc) : Prop := v = some (.int (own_eqv cs ds)) ∧ L = [] ∧ h = h0
set_option maxRecDepth 65536 in
set_option maxHeartbeats 40000000 in
theorem own_rse1 (l : Launch) (Z : State) (a0 : Array Value) (hw : ∀ d ∈ tables_1, d.before a0 Z = true) (ws : List Jvm.Cond) (s_ t_ b e_ : Addr) (kb ke : ClassId) (z w cp : Int32) (cs ds : List Int32) (h0 : Heap) (n0 : Nat) (Z0 : n0 ≤ h0.size) (E_s : Exa Z h0 s_ "java/lang/String") (F_c : Fld Z h0 s_ "java/lang/String" "coder" "B" (.int 0)) (F_v : Fld Z h0 s_ "java/lang/String" "value" "[B" (.ref b)) (E_t : Exa Z h0 t_ "java/lang/String") (F_d : Fld Z h0 t_ "java/lang/String" "coder" "B" (.int 0)) (F_w : Fld Z h0 t_ "java/lang/String" "value" "[B" (.ref e_)) (V_b : Arv Z h0 b kb .byte z (cs.map Value.int) (.int (0 : Int32))) (V_e : Arv Z h0 e_ ke .byte w (ds.map Value.int) (.int (0 : Int32))) (ok : own_OK z cs) (ok2 : own_OK w ds) (n_st : s_ ≠ t_) (S_cp : Sta Z h0 "java/lang/String" "COMPACT_STRINGS" "Z" (.int cp)) (hcp : ¬ cp = 0) :
    MetFree l (⟨"java/lang/String", "equals", "(Ljava/lang/Object;)Z"⟩ : MethodName) (head1 (Jvm.Cond.code (⟨"java/lang/String", "equals", "(Ljava/lang/Object;)Z"⟩ : MethodName) jdk_42_method_66_code 3 (some .boolean) :: ws) ({ frames := 1, cells := 0, slots := 0, locals := 14 } : Room)) (fun au Uu => au = #[(.ref s_), (.ref t_)] ∧ Z.Warmed39 Uu.vm ∧ Uu.heap = h0) (fun _ _ _ _ _ => True) (fun _ Uu ou Uw => ∃ vu Lu, ou = .returned vu ∧ Q_own_rse1 cs ds h0 n0 vu Uw.heap Lu ∧ FrameEnd Uu ou Uw Lu ({ frames := 1, cells := 0, slots := 0, locals := 14 } : Room).cells ({ frames := 1, cells := 0, slots := 0, locals := 14 } : Room).slots) := by
  refine MetFree.of_bodySF (plainFor_of_name (by first | (simp [plainName, overriddenIn]; done) | decide +kernel)) hisR ?_
  intro p e s m args below meth c s₁ Bd hml0 hP hK
  obtain ⟨rfl, hZ, hh⟩ := hP
  have hx := Bd.exec
  have hby := Bd.bytes
  have hlk := Bd.notSynchronized
  have hml : c.maxLocals = 3 := hml0
  have hown : s.vm.findClass "java/lang/String" = some m.cls := findClass_of_methodNamed Bd.named
  have hnm := (name_of_methodNamed Bd.named Bd.method).1
  have X0 : Stand p l e ({ frames := 1, cells := 0, slots := 0, locals := 14 } : Room) s m #[(.ref s_), (.ref t_)] below meth c s₁ [] 0 0 := Stand.of_body Bd
  have e0 : s₁.heap = h0 := by rw [← hh, Bd.state]; rfl
  have N0 := Fr.nil n0
  show own_Ends p e below s₁ (entryFrame m #[(.ref s_), (.ref t_)] 3) (fun ou Uw => ∃ vu Lu, ou = .returned vu ∧ Q_own_rse1 cs ds h0 n0 vu Uw.heap Lu ∧ FrameEnd s ou Uw Lu ({ frames := 1, cells := 0, slots := 0, locals := 14 } : Room).cells ({ frames := 1, cells := 0, slots := 0, locals := 14 } : Room).slots)
  refine own_start (g' := (mkF m 0 #[rv s_, rv t_, .unset] [])) (by first | (simp [entryFrame, mkF, argsToLocals, Value.category, iv, rv]; done) | rfl) ?_
  refine own_go (T' := s₁) (g' := (mkF m 1 #[rv s_, rv t_, .unset] [(.ref s_)])) (fun t k => XS.aloadN X0.here hx rfl (hb hby own_d_jdk_42_method_66_code_0) rfl rfl k) ?_
  refine own_go (T' := s₁) (g' := (mkF m 2 #[rv s_, rv t_, .unset] [(.ref t_), (.ref s_)])) (fun t k => XS.aloadN X0.here hx rfl (hb hby own_d_jdk_42_method_66_code_1) rfl rfl k) ?_
  refine own_go (T' := s₁) (g' := (mkF m 7 #[rv s_, rv t_, .unset] [])) (fun t k => Jvm.RoadKit.acmp (g := (mkF m 2 #[rv s_, rv t_, .unset] [(.ref t_), (.ref s_)])) X0 hx rfl (x := (.ref s_)) (y := (.ref t_)) rfl rfl (pc0 := 2) (pc' := 7) (same := false) rfl (hb hby own_d_jdk_42_method_66_code_2) rfl (decide_eq_false fun q => n_st (Value.ref.inj q)) (by decide) (by decide) k) ?_
  refine own_go (T' := s₁) (g' := (mkF m 8 #[rv s_, rv t_, .unset] [(.ref t_)])) (fun t k => XS.aloadN X0.here hx rfl (hb hby own_d_jdk_42_method_66_code_7) rfl rfl k) ?_
  obtain ⟨T606, X606, e606, st606⟩ := instY X0 hx hZ hown (hw _ (List.mem_of_getElem? (i := 137) rfl)) e0 (Ins.self E_t) (g := (mkF m 8 #[rv s_, rv t_, .unset] [(.ref t_)])) rfl rfl (hb hby own_d_jdk_42_method_66_code_8)
  refine own_go (T' := T606) (g' := (mkF m 11 #[rv s_, rv t_, .unset] [(.int (1 : Int32))])) (st606) ?_
  refine own_go (T' := T606) (g' := (mkF m 14 #[rv s_, rv t_, .unset] [])) (fun t k => XS.ifNo X606.here hx rfl (hb hby own_d_jdk_42_method_66_code_11) rfl ((if0 _ _).trans (feq (by decide : ¬ ((1 : Int32) = (0 : Int32)))).1) k) ?_
  refine own_go (T' := T606) (g' := (mkF m 15 #[rv s_, rv t_, .unset] [(.ref t_)])) (fun t k => XS.aloadN X606.here hx rfl (hb hby own_d_jdk_42_method_66_code_14) rfl rfl k) ?_
  obtain ⟨T607, X607, e607, st607⟩ := castY X606 hx hZ hown (hw _ (List.mem_of_getElem? (i := 137) rfl)) e606 (Ins.self E_t) (g := (mkF m 15 #[rv s_, rv t_, .unset] [(.ref t_)])) rfl rfl (hb hby own_d_jdk_42_method_66_code_15)
  refine own_go (T' := T607) (g' := (mkF m 18 #[rv s_, rv t_, .unset] [(.ref t_)])) (st607) ?_
  refine own_go (T' := T607) (g' := (mkF m 19 #[rv s_, rv t_, rv t_] [])) (fun t k => XS.astoreN X607.here hx rfl (hb hby own_d_jdk_42_method_66_code_18) rfl rfl (l' := #[rv s_, rv t_, rv t_]) rfl k) ?_
  obtain ⟨T608, X608, e608, st608⟩ := getS2 X607 hx hZ hown (host := "") (Or.inl (hw _ (List.mem_of_getElem? (i := 22) rfl))) Via.refl e607 S_cp (g := (mkF m 19 #[rv s_, rv t_, rv t_] [])) rfl (hb hby own_d_jdk_42_method_66_code_19)
  refine own_go (T' := T608) (g' := (mkF m 22 #[rv s_, rv t_, rv t_] [(.int cp)])) (st608) ?_
  refine own_go (T' := T608) (g' := (mkF m 25 #[rv s_, rv t_, rv t_] [])) (fun t k => XS.ifNo X608.here hx rfl (hb hby own_d_jdk_42_method_66_code_22) rfl ((if0 _ _).trans (feq (hcp : ¬ (cp = (0 : Int32)))).1) k) ?_
  refine own_go (T' := T608) (g' := (mkF m 26 #[rv s_, rv t_, rv t_] [(.ref s_)])) (fun t k => XS.aloadN X608.here hx rfl (hb hby own_d_jdk_42_method_66_code_25) rfl rfl k) ?_
  obtain ⟨T609, X609, e609, st609⟩ := getF X608 hx hZ hown (host := "") (Or.inl (hw _ (List.mem_of_getElem? (i := 34) rfl))) Via.refl e608 F_c (g := (mkF m 26 #[rv s_, rv t_, rv t_] [(.ref s_)])) rfl rfl (hb hby own_d_jdk_42_method_66_code_26)
  refine own_go (T' := T609) (g' := (mkF m 29 #[rv s_, rv t_, rv t_] [(.int (0 : Int32))])) (st609) ?_
  refine own_go (T' := T609) (g' := (mkF m 30 #[rv s_, rv t_, rv t_] [(.ref t_), (.int (0 : Int32))])) (fun t k => XS.aloadN X609.here hx rfl (hb hby own_d_jdk_42_method_66_code_29) rfl rfl k) ?_
  obtain ⟨T610, X610, e610, st610⟩ := getF X609 hx hZ hown (host := "") (Or.inl (hw _ (List.mem_of_getElem? (i := 34) rfl))) Via.refl e609 F_d (g := (mkF m 30 #[rv s_, rv t_, rv t_] [(.ref t_), (.int (0 : Int32))])) rfl rfl (hb hby own_d_jdk_42_method_66_code_30)
  refine own_go (T' := T610) (g' := (mkF m 33 #[rv s_, rv t_, rv t_] [(.int (0 : Int32)), (.int (0 : Int32))])) (st610) ?_
  refine own_go (T' := T610) (g' := (mkF m 36 #[rv s_, rv t_, rv t_] [])) (fun t k => XS.icmpNo X610.here hx rfl (hb hby own_d_jdk_42_method_66_code_33) rfl (teq (by decide : ((0 : Int32) = (0 : Int32)))).2 k) ?_
  refine own_go (T' := T610) (g' := (mkF m 37 #[rv s_, rv t_, rv t_] [(.ref s_)])) (fun t k => XS.aloadN X610.here hx rfl (hb hby own_d_jdk_42_method_66_code_36) rfl rfl k) ?_
  obtain ⟨T611, X611, e611, st611⟩ := getF X610 hx hZ hown (host := "") (Or.inl (hw _ (List.mem_of_getElem? (i := 36) rfl))) Via.refl e610 F_v (g := (mkF m 37 #[rv s_, rv t_, rv t_] [(.ref s_)])) rfl rfl (hb hby own_d_jdk_42_method_66_code_37)
  refine own_go (T' := T611) (g' := (mkF m 40 #[rv s_, rv t_, rv t_] [(.ref b)])) (st611) ?_
  refine own_go (T' := T611) (g' := (mkF m 41 #[rv s_, rv t_, rv t_] [(.ref t_), (.ref b)])) (fun t k => XS.aloadN X611.here hx rfl (hb hby own_d_jdk_42_method_66_code_40) rfl rfl k) ?_
  obtain ⟨T612, X612, e612, st612⟩ := getF X611 hx hZ hown (host := "") (Or.inl (hw _ (List.mem_of_getElem? (i := 36) rfl))) Via.refl e611 F_w (g := (mkF m 41 #[rv s_, rv t_, rv t_] [(.ref t_), (.ref b)])) rfl rfl (hb hby own_d_jdk_42_method_66_code_41)
  refine own_go (T' := T612) (g' := (mkF m 44 #[rv s_, rv t_, rv t_] [(.ref e_), (.ref b)])) (st612) ?_
  obtain ⟨_, _, ⟨T613, L613, k613, n613⟩, -, X613, ⟨Lc613, hQ613, l613, y613, z613⟩, st613⟩ := Jvm.LawKit.callS X612 hx (y := (⟨"java/lang/StringLatin1", "equals", "([B[B)Z"⟩ : MethodName)) hown (mvT hZ (hw _ (List.mem_of_getElem? (i := 138) rfl))) (mvT hZ (hw _ (List.mem_of_getElem? (i := 139) rfl))) (mvT hZ (hw _ (List.mem_of_getElem? (i := 69) rfl))) (mvT hZ (hw _ (List.mem_of_getElem? (i := 140) rfl))) (by decide) (backOf (W := 0) (own_rle l Z a0 hw [] b e_ kb ke z w cs ds h0 n0 Z0 V_b V_e ok ok2) hZ (hw _ (List.mem_of_getElem? (i := 140) rfl)) (hw _ (List.mem_of_getElem? (i := 69) rfl)) (by decide) (by decide)) (g := (mkF m 44 #[rv s_, rv t_, rv t_] [(.ref e_), (.ref b)])) rfl (by rw [hml]; rfl) (argsL := [(.ref b), (.ref e_)]) (rest := []) (lenOf own_pd18 rfl) rfl (by show 2 * 0 + _ ≤ _; exact Nat.le_of_eq rfl) (hb hby own_d_jdk_42_method_66_code_44) (fun _ _ => ⟨rfl, e612, (by decide : 0 + 0 ≤ _), (by decide : 0 + 0 ≤ _)⟩)
  dsimp only [Pt.U, Pt.locs, Pt.cells, Pt.slots] at X613 l613 y613 z613 st613 hQ613
  subst l613 y613 z613
  obtain ⟨rfl, rfl, e613⟩ := hQ613
  have E613q : T613.heap = h0 := e613
  have N613 := Fr.app N0 (Fr.nil n0)
  refine own_go (T' := T613) (g' := (mkF m 47 #[rv s_, rv t_, rv t_] [(.int (own_eqv cs ds))])) (st613) ?_
  by_cases hc614 : (own_eqv cs ds) = (0 : Int32)
  · refine own_go (T' := T613) (g' := (mkF m 54 #[rv s_, rv t_, rv t_] [])) (fun t k => XS.ifYes X613.here hx rfl (pc0 := 47) (pc' := 54) rfl (hb hby own_d_jdk_42_method_66_code_47) rfl ((if0 _ _).trans (teq hc614).1) (by decide) (by decide) k) ?_
    refine own_go (T' := T613) (g' := (mkF m 55 #[rv s_, rv t_, rv t_] [(.int (0 : Int32))])) (fun t k => XS.iconst X613.here hx rfl (hb hby own_d_jdk_42_method_66_code_54) k) ?_
    exact own_ret X613 hlk hx Bd.returns rfl (Or.inl ⟨rfl, Or.inr (Or.inl rfl), _, rfl⟩) (hb hby own_d_jdk_42_method_66_code_55) ⟨congrArg (fun z => some (Value.int z)) hc614.symm, rfl, E613q⟩ (by decide) (by decide)
  · refine own_go (T' := T613) (g' := (mkF m 50 #[rv s_, rv t_, rv t_] [])) (fun t k => XS.ifNo X613.here hx rfl (hb hby own_d_jdk_42_method_66_code_47) rfl ((if0 _ _).trans (feq hc614).1) k) ?_
    refine own_go (T' := T613) (g' := (mkF m 51 #[rv s_, rv t_, rv t_] [(.int (1 : Int32))])) (fun t k => XS.iconst X613.here hx rfl (hb hby own_d_jdk_42_method_66_code_50) k) ?_
    refine own_go (T' := T613) (g' := (mkF m 55 #[rv s_, rv t_, rv t_] [(.int (1 : Int32))])) (fun t k => XS.goto X613.here hx rfl (pc0 := 51) (pc' := 55) rfl (hb hby own_d_jdk_42_method_66_code_51) (by decide) (by decide) k) ?_
    exact own_ret X613 hlk hx Bd.returns rfl (Or.inl ⟨rfl, Or.inr (Or.inl rfl), _, rfl⟩) (hb hby own_d_jdk_42_method_66_code_55) ⟨congrArg (fun z => some (Value.int z)) (own_eqv1 hc614).symm, rfl, E613q⟩ (by decide) (by decide)

theorem own_d_prog_43_method_12_code_0 : decode prog_43_method_12_code 0 = .ok (.aload_n 1, 1) := by decide +kernel
theorem own_d_prog_43_method_12_code_1 : decode prog_43_method_12_code 1 = .ok (.instanceof 43, 3) := by decide +kernel
theorem own_d_prog_43_method_12_code_4 : decode prog_43_method_12_code 4 = .ok (.ifCond .eq 24, 3) := by decide +kernel
theorem own_d_prog_43_method_12_code_28 : decode prog_43_method_12_code 28 = .ok (.iconst 0, 1) := by decide +kernel
theorem own_d_prog_43_method_12_code_29 : decode prog_43_method_12_code 29 = .ok (.ireturn, 1) := by decide +kernel
def Q_own_rtn  (h0 : Heap) (n0 : Nat) (v : Option Value) (h : Heap) (L : List Loc) : Prop := v = some (.int 0) ∧ L = [] ∧ h = h0
set_option maxRecDepth 65536 in
set_option maxHeartbeats 40000000 in
theorem own_rtn (l : Launch) (Z : State) (a0 : Array Value) (hw : ∀ d ∈ tables_1, d.before a0 Z = true) (ws : List Jvm.Cond) (a : Addr) (h0 : Heap) (n0 : Nat) (Z0 : n0 ≤ h0.size)  :
    MetFree l (⟨"com/example/events_in_order/eventsinorder/model/Topic", "equals", "(Ljava/lang/Object;)Z"⟩ : MethodName) (head1 (Jvm.Cond.code (⟨"com/example/events_in_order/eventsinorder/model/Topic", "equals", "(Ljava/lang/Object;)Z"⟩ : MethodName) prog_43_method_12_code 2 (some .boolean) :: ws) ({ frames := 0, cells := 0, slots := 0, locals := 0 } : Room)) (fun au Uu => au = #[(.ref a), .null] ∧ Z.Warmed39 Uu.vm ∧ Uu.heap = h0) (fun _ _ _ _ _ => True) (fun _ Uu ou Uw => ∃ vu Lu, ou = .returned vu ∧ Q_own_rtn  h0 n0 vu Uw.heap Lu ∧ FrameEnd Uu ou Uw Lu ({ frames := 0, cells := 0, slots := 0, locals := 0 } : Room).cells ({ frames := 0, cells := 0, slots := 0, locals := 0 } : Room).slots) := by
  refine MetFree.of_bodySF (plainFor_of_name (by first | (simp [plainName, overriddenIn]; done) | decide +kernel)) hisR ?_
  intro p e s m args below meth c s₁ Bd hml0 hP hK
  obtain ⟨rfl, hZ, hh⟩ := hP
  have hx := Bd.exec
  have hby := Bd.bytes
  have hlk := Bd.notSynchronized
  have hml : c.maxLocals = 2 := hml0
  have hown : s.vm.findClass "com/example/events_in_order/eventsinorder/model/Topic" = some m.cls := findClass_of_methodNamed Bd.named
  have hnm := (name_of_methodNamed Bd.named Bd.method).1
  have X0 : Stand p l e ({ frames := 0, cells := 0, slots := 0, locals := 0 } : Room) s m #[(.ref a), .null] below meth c s₁ [] 0 0 := Stand.of_body Bd
  have e0 : s₁.heap = h0 := by rw [← hh, Bd.state]; rfl
  have N0 := Fr.nil n0
  show own_Ends p e below s₁ (entryFrame m #[(.ref a), .null] 2) (fun ou Uw => ∃ vu Lu, ou = .returned vu ∧ Q_own_rtn  h0 n0 vu Uw.heap Lu ∧ FrameEnd s ou Uw Lu ({ frames := 0, cells := 0, slots := 0, locals := 0 } : Room).cells ({ frames := 0, cells := 0, slots := 0, locals := 0 } : Room).slots)
  refine own_start (g' := (mkF m 0 #[rv a, .val .null] [])) (by first | (simp [entryFrame, mkF, argsToLocals, Value.category, iv, rv]; done) | rfl) ?_
  refine own_go (T' := s₁) (g' := (mkF m 1 #[rv a, .val .null] [.null])) (fun t k => XS.aloadN X0.here hx rfl (hb hby own_d_prog_43_method_12_code_0) rfl rfl k) ?_
  refine own_go (T' := s₁) (g' := (mkF m 4 #[rv a, .val .null] [(.int (0 : Int32))])) (fun t k => X0.instanceofNull hx (g := (mkF m 1 #[rv a, .val .null] [.null])) rfl rfl (hb hby own_d_prog_43_method_12_code_1) _ k) ?_
  refine own_go (T' := s₁) (g' := (mkF m 28 #[rv a, .val .null] [])) (fun t k => XS.ifYes X0.here hx rfl (pc0 := 4) (pc' := 28) rfl (hb hby own_d_prog_43_method_12_code_4) rfl ((if0 _ _).trans (teq (by decide : ((0 : Int32) = (0 : Int32)))).1) (by decide) (by decide) k) ?_
  refine own_go (T' := s₁) (g' := (mkF m 29 #[rv a, .val .null] [(.int (0 : Int32))])) (fun t k => XS.iconst X0.here hx rfl (hb hby own_d_prog_43_method_12_code_28) k) ?_
  exact own_ret X0 hlk hx Bd.returns rfl (Or.inl ⟨rfl, Or.inr (Or.inl rfl), _, rfl⟩) (hb hby own_d_prog_43_method_12_code_29) ⟨rfl, rfl, e0⟩ (by decide) (by decide)

def Q_own_rts  (h0 : Heap) (n0 : Nat) (v : Option Value) (h : Heap) (L : List Loc) : Prop := v = some (.int 0) ∧ L = [] ∧ h = h0
set_option maxRecDepth 65536 in
set_option maxHeartbeats 40000000 in
theorem own_rts (l : Launch) (Z : State) (a0 : Array Value) (hw : ∀ d ∈ tables_1, d.before a0 Z = true) (ws : List Jvm.Cond) (a s_ : Addr) (h0 : Heap) (n0 : Nat) (Z0 : n0 ≤ h0.size) (E_s : Exa Z h0 s_ "java/lang/String") :
    MetFree l (⟨"com/example/events_in_order/eventsinorder/model/Topic", "equals", "(Ljava/lang/Object;)Z"⟩ : MethodName) (head1 (Jvm.Cond.code (⟨"com/example/events_in_order/eventsinorder/model/Topic", "equals", "(Ljava/lang/Object;)Z"⟩ : MethodName) prog_43_method_12_code 2 (some .boolean) :: ws) ({ frames := 0, cells := 0, slots := 0, locals := 0 } : Room)) (fun au Uu => au = #[(.ref a), (.ref s_)] ∧ Z.Warmed39 Uu.vm ∧ Uu.heap = h0) (fun _ _ _ _ _ => True) (fun _ Uu ou Uw => ∃ vu Lu, ou = .returned vu ∧ Q_own_rts  h0 n0 vu Uw.heap Lu ∧ FrameEnd Uu ou Uw Lu ({ frames := 0, cells := 0, slots := 0, locals := 0 } : Room).cells ({ frames := 0, cells := 0, slots := 0, locals := 0 } : Room).slots) := by
  refine MetFree.of_bodySF (plainFor_of_name (by first | (simp [plainName, overriddenIn]; done) | decide +kernel)) hisR ?_
  intro p e s m args below meth c s₁ Bd hml0 hP hK
  obtain ⟨rfl, hZ, hh⟩ := hP
  have hx := Bd.exec
  have hby := Bd.bytes
  have hlk := Bd.notSynchronized
  have hml : c.maxLocals = 2 := hml0
  have hown : s.vm.findClass "com/example/events_in_order/eventsinorder/model/Topic" = some m.cls := findClass_of_methodNamed Bd.named
  have hnm := (name_of_methodNamed Bd.named Bd.method).1
  have X0 : Stand p l e ({ frames := 0, cells := 0, slots := 0, locals := 0 } : Room) s m #[(.ref a), (.ref s_)] below meth c s₁ [] 0 0 := Stand.of_body Bd
  have e0 : s₁.heap = h0 := by rw [← hh, Bd.state]; rfl
  have N0 := Fr.nil n0
  show own_Ends p e below s₁ (entryFrame m #[(.ref a), (.ref s_)] 2) (fun ou Uw => ∃ vu Lu, ou = .returned vu ∧ Q_own_rts  h0 n0 vu Uw.heap Lu ∧ FrameEnd s ou Uw Lu ({ frames := 0, cells := 0, slots := 0, locals := 0 } : Room).cells ({ frames := 0, cells := 0, slots := 0, locals := 0 } : Room).slots)
  refine own_start (g' := (mkF m 0 #[rv a, rv s_] [])) (by first | (simp [entryFrame, mkF, argsToLocals, Value.category, iv, rv]; done) | rfl) ?_
  refine own_go (T' := s₁) (g' := (mkF m 1 #[rv a, rv s_] [(.ref s_)])) (fun t k => XS.aloadN X0.here hx rfl (hb hby own_d_prog_43_method_12_code_0) rfl rfl k) ?_
  obtain ⟨T616, X616, e616, st616⟩ := instNo X0 hx hZ hown (hw _ (List.mem_of_getElem? (i := 130) rfl)) e0 E_s (own_noinst (hw _ (List.mem_of_getElem? (i := 141) rfl)) (hw _ (List.mem_of_getElem? (i := 142) rfl)) (hw _ (List.mem_of_getElem? (i := 39) rfl)) (by decide) (by decide)) (g := (mkF m 1 #[rv a, rv s_] [(.ref s_)])) rfl rfl (hb hby own_d_prog_43_method_12_code_1)
  refine own_go (T' := T616) (g' := (mkF m 4 #[rv a, rv s_] [(.int (0 : Int32))])) (st616) ?_
  refine own_go (T' := T616) (g' := (mkF m 28 #[rv a, rv s_] [])) (fun t k => XS.ifYes X616.here hx rfl (pc0 := 4) (pc' := 28) rfl (hb hby own_d_prog_43_method_12_code_4) rfl ((if0 _ _).trans (teq (by decide : ((0 : Int32) = (0 : Int32)))).1) (by decide) (by decide) k) ?_
  refine own_go (T' := T616) (g' := (mkF m 29 #[rv a, rv s_] [(.int (0 : Int32))])) (fun t k => XS.iconst X616.here hx rfl (hb hby own_d_prog_43_method_12_code_28) k) ?_
  exact own_ret X616 hlk hx Bd.returns rfl (Or.inl ⟨rfl, Or.inr (Or.inl rfl), _, rfl⟩) (hb hby own_d_prog_43_method_12_code_29) ⟨rfl, rfl, e616⟩ (by decide) (by decide)

theorem own_pd19 : parseMethodDescriptor "(Ljava/lang/Object;)Z" = some ⟨[(.object "java/lang/Object")], some .boolean⟩ := by decide +kernel
theorem own_d_prog_43_method_12_code_7 : decode prog_43_method_12_code 7 = .ok (.aload_n 0, 1) := by decide +kernel
theorem own_d_prog_43_method_12_code_8 : decode prog_43_method_12_code 8 = .ok (.getfield 68, 3) := by decide +kernel
theorem own_d_prog_43_method_12_code_11 : decode prog_43_method_12_code 11 = .ok (.aload_n 1, 1) := by decide +kernel
theorem own_d_prog_43_method_12_code_12 : decode prog_43_method_12_code 12 = .ok (.checkcast 43, 3) := by decide +kernel
theorem own_d_prog_43_method_12_code_15 : decode prog_43_method_12_code 15 = .ok (.getfield 68, 3) := by decide +kernel
theorem own_d_prog_43_method_12_code_18 : decode prog_43_method_12_code 18 = .ok (.invokevirtual 165, 3) := by decide +kernel
theorem own_d_prog_43_method_12_code_21 : decode prog_43_method_12_code 21 = .ok (.ifCond .eq 7, 3) := by decide +kernel
theorem own_d_prog_43_method_12_code_24 : decode prog_43_method_12_code 24 = .ok (.iconst 1, 1) := by decide +kernel
theorem own_d_prog_43_method_12_code_25 : decode prog_43_method_12_code 25 = .ok (.goto 4, 3) := by decide +kernel
def Q_own_rtq  (h0 : Heap) (n0 : Nat) (v : Option Value) (h : Heap) (L : List Loc) : Prop := v = some (.int 1) ∧ L = [] ∧ h = h0
set_option maxRecDepth 65536 in
set_option maxHeartbeats 40000000 in
theorem own_rtq (l : Launch) (Z : State) (a0 : Array Value) (hw : ∀ d ∈ tables_1, d.before a0 Z = true) (ws : List Jvm.Cond) (a s_ : Addr) (h0 : Heap) (n0 : Nat) (Z0 : n0 ≤ h0.size) (E_a : Exa Z h0 a "com/example/events_in_order/eventsinorder/model/Topic") (F_nm : Fld Z h0 a "com/example/events_in_order/eventsinorder/model/Topic" "name" "Ljava/lang/String;" (.ref s_)) (E_s : Exa Z h0 s_ "java/lang/String") :
    MetFree l (⟨"com/example/events_in_order/eventsinorder/model/Topic", "equals", "(Ljava/lang/Object;)Z"⟩ : MethodName) (head1 (Jvm.Cond.code (⟨"com/example/events_in_order/eventsinorder/model/Topic", "equals", "(Ljava/lang/Object;)Z"⟩ : MethodName) prog_43_method_12_code 2 (some .boolean) :: ws) ({ frames := 1, cells := 0, slots := 0, locals := 14 } : Room)) (fun au Uu => au = #[(.ref a), (.ref a)] ∧ Z.Warmed39 Uu.vm ∧ Uu.heap = h0) (fun _ _ _ _ _ => True) (fun _ Uu ou Uw => ∃ vu Lu, ou = .returned vu ∧ Q_own_rtq  h0 n0 vu Uw.heap Lu ∧ FrameEnd Uu ou Uw Lu ({ frames := 1, cells := 0, slots := 0, locals := 14 } : Room).cells ({ frames := 1, cells := 0, slots := 0, locals := 14 } : Room).slots) := by
  refine MetFree.of_bodySF (plainFor_of_name (by first | (simp [plainName, overriddenIn]; done) | decide +kernel)) hisR ?_
  intro p e s m args below meth c s₁ Bd hml0 hP hK
  obtain ⟨rfl, hZ, hh⟩ := hP
  have hx := Bd.exec
  have hby := Bd.bytes
  have hlk := Bd.notSynchronized
  have hml : c.maxLocals = 2 := hml0
  have hown : s.vm.findClass "com/example/events_in_order/eventsinorder/model/Topic" = some m.cls := findClass_of_methodNamed Bd.named
  have hnm := (name_of_methodNamed Bd.named Bd.method).1
  have X0 : Stand p l e ({ frames := 1, cells := 0, slots := 0, locals := 14 } : Room) s m #[(.ref a), (.ref a)] below meth c s₁ [] 0 0 := Stand.of_body Bd
  have e0 : s₁.heap = h0 := by rw [← hh, Bd.state]; rfl
  have N0 := Fr.nil n0
  show own_Ends p e below s₁ (entryFrame m #[(.ref a), (.ref a)] 2) (fun ou Uw => ∃ vu Lu, ou = .returned vu ∧ Q_own_rtq  h0 n0 vu Uw.heap Lu ∧ FrameEnd s ou Uw Lu ({ frames := 1, cells := 0, slots := 0, locals := 14 } : Room).cells ({ frames := 1, cells := 0, slots := 0, locals := 14 } : Room).slots)
  refine own_start (g' := (mkF m 0 #[rv a, rv a] [])) (by first | (simp [entryFrame, mkF, argsToLocals, Value.category, iv, rv]; done) | rfl) ?_
  refine own_go (T' := s₁) (g' := (mkF m 1 #[rv a, rv a] [(.ref a)])) (fun t k => XS.aloadN X0.here hx rfl (hb hby own_d_prog_43_method_12_code_0) rfl rfl k) ?_
  obtain ⟨T617, X617, e617, st617⟩ := instY X0 hx hZ hown (hw _ (List.mem_of_getElem? (i := 130) rfl)) e0 (Ins.self E_a) (g := (mkF m 1 #[rv a, rv a] [(.ref a)])) rfl rfl (hb hby own_d_prog_43_method_12_code_1)
  refine own_go (T' := T617) (g' := (mkF m 4 #[rv a, rv a] [(.int (1 : Int32))])) (st617) ?_
  refine own_go (T' := T617) (g' := (mkF m 7 #[rv a, rv a] [])) (fun t k => XS.ifNo X617.here hx rfl (hb hby own_d_prog_43_method_12_code_4) rfl ((if0 _ _).trans (feq (by decide : ¬ ((1 : Int32) = (0 : Int32)))).1) k) ?_
  refine own_go (T' := T617) (g' := (mkF m 8 #[rv a, rv a] [(.ref a)])) (fun t k => XS.aloadN X617.here hx rfl (hb hby own_d_prog_43_method_12_code_7) rfl rfl k) ?_
  obtain ⟨T618, X618, e618, st618⟩ := getF X617 hx hZ hown (host := "") (Or.inl (hw _ (List.mem_of_getElem? (i := 121) rfl))) Via.refl e617 F_nm (g := (mkF m 8 #[rv a, rv a] [(.ref a)])) rfl rfl (hb hby own_d_prog_43_method_12_code_8)
  refine own_go (T' := T618) (g' := (mkF m 11 #[rv a, rv a] [(.ref s_)])) (st618) ?_
  refine own_go (T' := T618) (g' := (mkF m 12 #[rv a, rv a] [(.ref a), (.ref s_)])) (fun t k => XS.aloadN X618.here hx rfl (hb hby own_d_prog_43_method_12_code_11) rfl rfl k) ?_
  obtain ⟨T619, X619, e619, st619⟩ := castY X618 hx hZ hown (hw _ (List.mem_of_getElem? (i := 130) rfl)) e618 (Ins.self E_a) (g := (mkF m 12 #[rv a, rv a] [(.ref a), (.ref s_)])) rfl rfl (hb hby own_d_prog_43_method_12_code_12)
  refine own_go (T' := T619) (g' := (mkF m 15 #[rv a, rv a] [(.ref a), (.ref s_)])) (st619) ?_
  obtain ⟨T620, X620, e620, st620⟩ := getF X619 hx hZ hown (host := "") (Or.inl (hw _ (List.mem_of_getElem? (i := 121) rfl))) Via.refl e619 F_nm (g := (mkF m 15 #[rv a, rv a] [(.ref a), (.ref s_)])) rfl rfl (hb hby own_d_prog_43_method_12_code_15)
  refine own_go (T' := T620) (g' := (mkF m 18 #[rv a, rv a] [(.ref s_), (.ref s_)])) (st620) ?_
  obtain ⟨cq621, kq621, q621a, q621b, q621c⟩ := isOf hZ e620 E_s
  obtain ⟨_, _, ⟨T621, L621, k621, n621⟩, -, X621, ⟨Lc621, hQ621, l621, y621, z621⟩, st621⟩ := X620.virtualBack hx (y := (⟨"java/lang/String", "equals", "(Ljava/lang/Object;)Z"⟩ : MethodName)) (z := (⟨"java/lang/String", "equals", "(Ljava/lang/Object;)Z"⟩ : MethodName)) hown (mvT hZ (hw _ (List.mem_of_getElem? (i := 132) rfl))) (mvT hZ (hw _ (List.mem_of_getElem? (i := 133) rfl))) (notFace_of_selects (args := #[]) (mvT hZ (hw _ (List.mem_of_getElem? (i := 135) rfl)))) (mvT hZ (hw _ (List.mem_of_getElem? (i := 135) rfl))) (mvT hZ (hw _ (List.mem_of_getElem? (i := 134) rfl))) (by decide) (backOf (W := 0) (own_rse0 l Z a0 hw [] s_ h0 n0 Z0) hZ (hw _ (List.mem_of_getElem? (i := 136) rfl)) (hw _ (List.mem_of_getElem? (i := 10) rfl)) (by decide) (by decide)) q621a q621c (g := (mkF m 18 #[rv a, rv a] [(.ref s_), (.ref s_)])) rfl (by rw [hml]; rfl) (Steps.refl _) (argsL := [(.ref s_)]) (rest := []) (lenOf own_pd19 rfl) rfl (by show 2 * 0 + _ ≤ _; exact Nat.le_of_eq rfl) (hb hby own_d_prog_43_method_12_code_18) (fun _ _ => ⟨rfl, e620, (by decide : 0 + 0 ≤ _), (by decide : 0 + 0 ≤ _)⟩)
  dsimp only [Pt.U, Pt.locs, Pt.cells, Pt.slots] at X621 l621 y621 z621 st621 hQ621
  subst l621 y621 z621
  obtain ⟨rfl, rfl, e621⟩ := hQ621
  have E621q : T621.heap = h0 := e621
  have N621 := Fr.app N0 (Fr.nil n0)
  refine own_go (T' := T621) (g' := (mkF m 21 #[rv a, rv a] [(.int (1 : Int32))])) (fun t k => st621.trans k) ?_
  refine own_go (T' := T621) (g' := (mkF m 24 #[rv a, rv a] [])) (fun t k => XS.ifNo X621.here hx rfl (hb hby own_d_prog_43_method_12_code_21) rfl ((if0 _ _).trans (feq (by decide : ¬ ((1 : Int32) = (0 : Int32)))).1) k) ?_
  refine own_go (T' := T621) (g' := (mkF m 25 #[rv a, rv a] [(.int (1 : Int32))])) (fun t k => XS.iconst X621.here hx rfl (hb hby own_d_prog_43_method_12_code_24) k) ?_
  refine own_go (T' := T621) (g' := (mkF m 29 #[rv a, rv a] [(.int (1 : Int32))])) (fun t k => XS.goto X621.here hx rfl (pc0 := 25) (pc' := 29) rfl (hb hby own_d_prog_43_method_12_code_25) (by decide) (by decide) k) ?_
  exact own_ret X621 hlk hx Bd.returns rfl (Or.inl ⟨rfl, Or.inr (Or.inl rfl), _, rfl⟩) (hb hby own_d_prog_43_method_12_code_29) ⟨rfl, rfl, E621q⟩ (by decide) (by decide)

def Q_own_rtt (cs ds : List Int32) (h0 : Heap) (n0 : Nat) (v : Option Value) (h : Heap) (L : List Loc) : Prop := v = some (.int (own_eqv cs ds)) ∧ L = [] ∧ h = h0
set_option maxRecDepth 65536 in
set_option maxHeartbeats 40000000 in
theorem own_rtt (l : Launch) (Z : State) (a0 : Array Value) (hw : ∀ d ∈ tables_1, d.before a0 Z = true) (ws : List Jvm.Cond) (a a2 : Addr) (s_ t_ b e_ : Addr) (kb ke : ClassId) (z w cp : Int32) (cs ds : List Int32) (h0 : Heap) (n0 : Nat) (Z0 : n0 ≤ h0.size) (E_a2 : Exa Z h0 a2 "com/example/events_in_order/eventsinorder/model/Topic") (F_nm : Fld Z h0 a "com/example/events_in_order/eventsinorder/model/Topic" "name" "Ljava/lang/String;" (.ref s_)) (F_nm2 : Fld Z h0 a2 "com/example/events_in_order/eventsinorder/model/Topic" "name" "Ljava/lang/String;" (.ref t_)) (E_s : Exa Z h0 s_ "java/lang/String") (F_c : Fld Z h0 s_ "java/lang/String" "coder" "B" (.int 0)) (F_v : Fld Z h0 s_ "java/lang/String" "value" "[B" (.ref b)) (E_t : Exa Z h0 t_ "java/lang/String") (F_d : Fld Z h0 t_ "java/lang/String" "coder" "B" (.int 0)) (F_w : Fld Z h0 t_ "java/lang/String" "value" "[B" (.ref e_)) (V_b : Arv Z h0 b kb .byte z (cs.map Value.int) (.int (0 : Int32))) (V_e : Arv Z h0 e_ ke .byte w (ds.map Value.int) (.int (0 : Int32))) (ok : own_OK z cs) (ok2 : own_OK w ds) (n_st : s_ ≠ t_) (S_cp : Sta Z h0 "java/lang/String" "COMPACT_STRINGS" "Z" (.int cp)) (hcp : ¬ cp = 0) :
    MetFree l (⟨"com/example/events_in_order/eventsinorder/model/Topic", "equals", "(Ljava/lang/Object;)Z"⟩ : MethodName) (head1 (Jvm.Cond.code (⟨"com/example/events_in_order/eventsinorder/model/Topic", "equals", "(Ljava/lang/Object;)Z"⟩ : MethodName) prog_43_method_12_code 2 (some .boolean) :: ws) ({ frames := 2, cells := 0, slots := 0, locals := 28 } : Room)) (fun au Uu => au = #[(.ref a), (.ref a2)] ∧ Z.Warmed39 Uu.vm ∧ Uu.heap = h0) (fun _ _ _ _ _ => True) (fun _ Uu ou Uw => ∃ vu Lu, ou = .returned vu ∧ Q_own_rtt cs ds h0 n0 vu Uw.heap Lu ∧ FrameEnd Uu ou Uw Lu ({ frames := 2, cells := 0, slots := 0, locals := 28 } : Room).cells ({ frames := 2, cells := 0, slots := 0, locals := 28 } : Room).slots) := by
  refine MetFree.of_bodySF (plainFor_of_name (by first | (simp [plainName, overriddenIn]; done) | decide +kernel)) hisR ?_
  intro p e s m args below meth c s₁ Bd hml0 hP hK
  obtain ⟨rfl, hZ, hh⟩ := hP
  have hx := Bd.exec
  have hby := Bd.bytes
  have hlk := Bd.notSynchronized
  have hml : c.maxLocals = 2 := hml0
  have hown : s.vm.findClass "com/example/events_in_order/eventsinorder/model/Topic" = some m.cls := findClass_of_methodNamed Bd.named
  have hnm := (name_of_methodNamed Bd.named Bd.method).1
  have X0 : Stand p l e ({ frames := 2, cells := 0, slots := 0, locals := 28 } : Room) s m #[(.ref a), (.ref a2)] below meth c s₁ [] 0 0 := Stand.of_body Bd
  have e0 : s₁.heap = h0 := by rw [← hh, Bd.state]; rfl
  have N0 := Fr.nil n0
  show own_Ends p e below s₁ (entryFrame m #[(.ref a), (.ref a2)] 2) (fun ou Uw => ∃ vu Lu, ou = .returned vu ∧ Q_own_rtt cs ds h0 n0 vu Uw.heap Lu ∧ FrameEnd s ou Uw Lu ({ frames := 2, cells := 0, slots := 0, locals := 28 } : Room).cells ({ frames := 2, cells := 0, slots := 0, locals := 28 } : Room).slots)
  refine own_start (g' := (mkF m 0 #[rv a, rv a2] [])) (by first | (simp [entryFrame, mkF, argsToLocals, Value.category, iv, rv]; done) | rfl) ?_
  refine own_go (T' := s₁) (g' := (mkF m 1 #[rv a, rv a2] [(.ref a2)])) (fun t k => XS.aloadN X0.here hx rfl (hb hby own_d_prog_43_method_12_code_0) rfl rfl k) ?_
  obtain ⟨T622, X622, e622, st622⟩ := instY X0 hx hZ hown (hw _ (List.mem_of_getElem? (i := 130) rfl)) e0 (Ins.self E_a2) (g := (mkF m 1 #[rv a, rv a2] [(.ref a2)])) rfl rfl (hb hby own_d_prog_43_method_12_code_1)
  refine own_go (T' := T622) (g' := (mkF m 4 #[rv a, rv a2] [(.int (1 : Int32))])) (st622) ?_
  refine own_go (T' := T622) (g' := (mkF m 7 #[rv a, rv a2] [])) (fun t k => XS.ifNo X622.here hx rfl (hb hby own_d_prog_43_method_12_code_4) rfl ((if0 _ _).trans (feq (by decide : ¬ ((1 : Int32) = (0 : Int32)))).1) k) ?_
  refine own_go (T' := T622) (g' := (mkF m 8 #[rv a, rv a2] [(.ref a)])) (fun t k => XS.aloadN X622.here hx rfl (hb hby own_d_prog_43_method_12_code_7) rfl rfl k) ?_
  obtain ⟨T623, X623, e623, st623⟩ := getF X622 hx hZ hown (host := "") (Or.inl (hw _ (List.mem_of_getElem? (i := 121) rfl))) Via.refl e622 F_nm (g := (mkF m 8 #[rv a, rv a2] [(.ref a)])) rfl rfl (hb hby own_d_prog_43_method_12_code_8)
  refine own_go (T' := T623) (g' := (mkF m 11 #[rv a, rv a2] [(.ref s_)])) (st623) ?_
  refine own_go (T' := T623) (g' := (mkF m 12 #[rv a, rv a2] [(.ref a2), (.ref s_)])) (fun t k => XS.aloadN X623.here hx rfl (hb hby own_d_prog_43_method_12_code_11) rfl rfl k) ?_
  obtain ⟨T624, X624, e624, st624⟩ := castY X623 hx hZ hown (hw _ (List.mem_of_getElem? (i := 130) rfl)) e623 (Ins.self E_a2) (g := (mkF m 12 #[rv a, rv a2] [(.ref a2), (.ref s_)])) rfl rfl (hb hby own_d_prog_43_method_12_code_12)
  refine own_go (T' := T624) (g' := (mkF m 15 #[rv a, rv a2] [(.ref a2), (.ref s_)])) (st624) ?_
  obtain ⟨T625, X625, e625, st625⟩ := getF X624 hx hZ hown (host := "") (Or.inl (hw _ (List.mem_of_getElem? (i := 121) rfl))) Via.refl e624 F_nm2 (g := (mkF m 15 #[rv a, rv a2] [(.ref a2), (.ref s_)])) rfl rfl (hb hby own_d_prog_43_method_12_code_15)
  refine own_go (T' := T625) (g' := (mkF m 18 #[rv a, rv a2] [(.ref t_), (.ref s_)])) (st625) ?_
  obtain ⟨cq626, kq626, q626a, q626b, q626c⟩ := isOf hZ e625 E_s
  obtain ⟨_, _, ⟨T626, L626, k626, n626⟩, -, X626, ⟨Lc626, hQ626, l626, y626, z626⟩, st626⟩ := X625.virtualBack hx (y := (⟨"java/lang/String", "equals", "(Ljava/lang/Object;)Z"⟩ : MethodName)) (z := (⟨"java/lang/String", "equals", "(Ljava/lang/Object;)Z"⟩ : MethodName)) hown (mvT hZ (hw _ (List.mem_of_getElem? (i := 132) rfl))) (mvT hZ (hw _ (List.mem_of_getElem? (i := 133) rfl))) (notFace_of_selects (args := #[]) (mvT hZ (hw _ (List.mem_of_getElem? (i := 135) rfl)))) (mvT hZ (hw _ (List.mem_of_getElem? (i := 135) rfl))) (mvT hZ (hw _ (List.mem_of_getElem? (i := 134) rfl))) (by decide) (backOf (W := 0) (own_rse1 l Z a0 hw [] s_ t_ b e_ kb ke z w cp cs ds h0 n0 Z0 E_s F_c F_v E_t F_d F_w V_b V_e ok ok2 n_st S_cp hcp) hZ (hw _ (List.mem_of_getElem? (i := 136) rfl)) (hw _ (List.mem_of_getElem? (i := 10) rfl)) (by decide) (by decide)) q626a q626c (g := (mkF m 18 #[rv a, rv a2] [(.ref t_), (.ref s_)])) rfl (by rw [hml]; rfl) (Steps.refl _) (argsL := [(.ref t_)]) (rest := []) (lenOf own_pd19 rfl) rfl (by show 2 * 0 + _ ≤ _; exact Nat.le_of_eq rfl) (hb hby own_d_prog_43_method_12_code_18) (fun _ _ => ⟨rfl, e625, (by decide : 0 + 0 ≤ _), (by decide : 0 + 0 ≤ _)⟩)
  dsimp only [Pt.U, Pt.locs, Pt.cells, Pt.slots] at X626 l626 y626 z626 st626 hQ626
  subst l626 y626 z626
  obtain ⟨rfl, rfl, e626⟩ := hQ626
  have E626q : T626.heap = h0 := e626
  have N626 := Fr.app N0 (Fr.nil n0)
  refine own_go (T' := T626) (g' := (mkF m 21 #[rv a, rv a2] [(.int (own_eqv cs ds))])) (fun t k => st626.trans k) ?_
  by_cases hc627 : (own_eqv cs ds) = (0 : Int32)
  · refine own_go (T' := T626) (g' := (mkF m 28 #[rv a, rv a2] [])) (fun t k => XS.ifYes X626.here hx rfl (pc0 := 21) (pc' := 28) rfl (hb hby own_d_prog_43_method_12_code_21) rfl ((if0 _ _).trans (teq hc627).1) (by decide) (by decide) k) ?_
    refine own_go (T' := T626) (g' := (mkF m 29 #[rv a, rv a2] [(.int (0 : Int32))])) (fun t k => XS.iconst X626.here hx rfl (hb hby own_d_prog_43_method_12_code_28) k) ?_
    exact own_ret X626 hlk hx Bd.returns rfl (Or.inl ⟨rfl, Or.inr (Or.inl rfl), _, rfl⟩) (hb hby own_d_prog_43_method_12_code_29) ⟨congrArg (fun z => some (Value.int z)) hc627.symm, rfl, E626q⟩ (by decide) (by decide)
  · refine own_go (T' := T626) (g' := (mkF m 24 #[rv a, rv a2] [])) (fun t k => XS.ifNo X626.here hx rfl (hb hby own_d_prog_43_method_12_code_21) rfl ((if0 _ _).trans (feq hc627).1) k) ?_
    refine own_go (T' := T626) (g' := (mkF m 25 #[rv a, rv a2] [(.int (1 : Int32))])) (fun t k => XS.iconst X626.here hx rfl (hb hby own_d_prog_43_method_12_code_24) k) ?_
    refine own_go (T' := T626) (g' := (mkF m 29 #[rv a, rv a2] [(.int (1 : Int32))])) (fun t k => XS.goto X626.here hx rfl (pc0 := 25) (pc' := 29) rfl (hb hby own_d_prog_43_method_12_code_25) (by decide) (by decide) k) ?_
    exact own_ret X626 hlk hx Bd.returns rfl (Or.inl ⟨rfl, Or.inr (Or.inl rfl), _, rfl⟩) (hb hby own_d_prog_43_method_12_code_29) ⟨congrArg (fun z => some (Value.int z)) (own_eqv1 hc627).symm, rfl, E626q⟩ (by decide) (by decide)

theorem own_pd21 : parseMethodDescriptor "(ICCC)Ljava/lang/String;" = some ⟨[.int, .char, .char, .char], some (.object "java/lang/String")⟩ := by decide +kernel
theorem own_pd20 : parseMethodDescriptor "(II)C" = some ⟨[.int, .int], some .char⟩ := by decide +kernel
theorem own_pd22 : parseMethodDescriptor "(Ljava/lang/String;)V" = some ⟨[(.object "java/lang/String")], none⟩ := by decide +kernel
def Q_own_law (h0 : Heap) (n0 : Nat) (v : Option Value) (h : Heap) (L : List Loc) : Prop := v = some (.int 1) ∧ Fr n0 L
set_option maxRecDepth 65536 in
set_option maxHeartbeats 40000000 in
theorem own_law (l : Launch) (Z : State) (a0 : Array Value) (hw : ∀ d ∈ tables_1, d.before a0 Z = true) (ws : List Jvm.Cond) (x0 x1 x2 : Int32) (u8 : Addr) (cp : Int32) (fm : Value) (h0 : Heap) (n0 : Nat) (Z0 : n0 ≤ h0.size) (S_cp : Sta Z h0 "java/lang/String" "COMPACT_STRINGS" "Z" (.int cp)) (hcp : ¬ cp = 0) (S_fm : Sta Z h0 "jdk/internal/util/Preconditions" "SIOOBE_FORMATTER" "Ljava/util/function/BiFunction;" fm) (hfm : fm.isRef = true) (S_u8 : Sta Z h0 "java/nio/charset/StandardCharsets" "UTF_8" "Ljava/nio/charset/Charset;" (.ref u8)) (S_in : Sta Z h0 "sun/nio/cs/UTF_8" "INSTANCE" "Lsun/nio/cs/UTF_8;" (.ref u8)) :
    MetFree l x (head1 (Jvm.Cond.code x code maxLocals ret :: ws) room_1) (fun au Uu => au = #[(.int x0), (.int x1), (.int x2)] ∧ Z.Warmed39 Uu.vm ∧ Uu.heap = h0) (fun _ _ _ _ _ => True) (fun _ Uu ou Uw => ∃ vu Lu, ou = .returned vu ∧ Q_own_law h0 n0 vu Uw.heap Lu ∧ ReturnedEndW Uu ou Uw Lu 32 1152) := by
  refine MetFree.of_bodySF (plainFor_of_name (by first | (simp [plainName, overriddenIn]; done) | decide +kernel)) hisR ?_
  intro p e s m args below meth c s₁ Bd hml0 hP hK
  obtain ⟨rfl, hZ, hh⟩ := hP
  have hx := Bd.exec
  have hby := Bd.bytes
  have hlk := Bd.notSynchronized
  have hml : c.maxLocals = 18 := hml0
  have hown : s.vm.findClass "com/example/events_in_order/eventsinorder/model/TopicEqualsPinLaw" = some m.cls := findClass_of_methodNamed Bd.named
  have hnm := (name_of_methodNamed Bd.named Bd.method).1
  have X0 : Stand p l e room_1 s m #[(.int x0), (.int x1), (.int x2)] below meth c s₁ [] 0 0 := Stand.of_body Bd
  have e0 : s₁.heap = h0 := by rw [← hh, Bd.state]; rfl
  have N0 := Fr.nil n0
  show own_Ends p e below s₁ (entryFrame m #[(.int x0), (.int x1), (.int x2)] maxLocals) (fun ou Uw => ∃ vu Lu, ou = .returned vu ∧ Q_own_law h0 n0 vu Uw.heap Lu ∧ ReturnedEndW s ou Uw Lu 32 1152)
  refine own_start (g' := (mkF m 0 #[iv x0, iv x1, iv x2, .unset, .unset, .unset, .unset, .unset, .unset, .unset, .unset, .unset, .unset, .unset, .unset, .unset, .unset, .unset] [])) (by first | (simp [entryFrame, mkF, argsToLocals, Value.category, iv, rv, maxLocals]; done) | rfl) ?_
  refine own_go (T' := s₁) (g' := (mkF m 1 #[iv x0, iv x1, iv x2, .unset, .unset, .unset, .unset, .unset, .unset, .unset, .unset, .unset, .unset, .unset, .unset, .unset, .unset, .unset] [(.int (1 : Int32))])) (fun t k => XS.iconst X0.here hx rfl (hb hby at_0) k) ?_
  refine own_go (T' := s₁) (g' := (mkF m 2 #[iv x0, iv x1, iv x2, .unset, .unset, .unset, .unset, .unset, .unset, .unset, .unset, .unset, .unset, .unset, .unset, .unset, .unset, .unset] [(.int x2), (.int (1 : Int32))])) (fun t k => XS.iloadN X0.here hx rfl (hb hby at_1) rfl k) ?_
  refine own_go (T' := s₁) (g' := (mkF m 4 #[iv x0, iv x1, iv x2, .unset, .unset, .unset, .unset, .unset, .unset, .unset, .unset, .unset, .unset, .unset, .unset, .unset, .unset, .unset] [(.int (2147483647 : Int32)), (.int x2), (.int (1 : Int32))])) (fun t k => X0.ldcInt hx hown (mvT hZ (hw _ (List.mem_of_getElem? (i := 0) rfl))) (g := (mkF m 2 #[iv x0, iv x1, iv x2, .unset, .unset, .unset, .unset, .unset, .unset, .unset, .unset, .unset, .unset, .unset, .unset, .unset, .unset, .unset] [(.int x2), (.int (1 : Int32))])) rfl (hb hby at_2) _ k) ?_
  refine own_go (T' := s₁) (g' := (mkF m 5 #[iv x0, iv x1, iv x2, .unset, .unset, .unset, .unset, .unset, .unset, .unset, .unset, .unset, .unset, .unset, .unset, .unset, .unset, .unset] [(.int (x2 &&& (2147483647 : Int32))), (.int (1 : Int32))])) (fun t k => XS.iand X0.here hx rfl (hb hby at_4) rfl k) ?_
  refine own_go (T' := s₁) (g' := (mkF m 6 #[iv x0, iv x1, iv x2, .unset, .unset, .unset, .unset, .unset, .unset, .unset, .unset, .unset, .unset, .unset, .unset, .unset, .unset, .unset] [(.int (3 : Int32)), (.int (x2 &&& (2147483647 : Int32))), (.int (1 : Int32))])) (fun t k => XS.iconst X0.here hx rfl (hb hby at_5) k) ?_
  refine own_go (T' := s₁) (g' := (mkF m 7 #[iv x0, iv x1, iv x2, .unset, .unset, .unset, .unset, .unset, .unset, .unset, .unset, .unset, .unset, .unset, .unset, .unset, .unset, .unset] [(.int ((x2 &&& (2147483647 : Int32)) % (3 : Int32))), (.int (1 : Int32))])) (fun t k => Jvm.RoadKit.iremM X0 hx rfl (hb hby at_6) rfl (by decide) k) ?_
  refine own_go (T' := s₁) (g' := (mkF m 8 #[iv x0, iv x1, iv x2, .unset, .unset, .unset, .unset, .unset, .unset, .unset, .unset, .unset, .unset, .unset, .unset, .unset, .unset, .unset] [(.int ((1 : Int32) + ((x2 &&& (2147483647 : Int32)) % (3 : Int32))))])) (fun t k => XS.iadd X0.here hx rfl (hb hby at_7) rfl k) ?_
  obtain ⟨la, g_la⟩ : ∃ z, z = ((1 : Int32) + ((x2 &&& (2147483647 : Int32)) % (3 : Int32))) := ⟨_, rfl⟩
  have hl_la := own_la x2
  rw [← g_la] at hl_la ⊢
  refine own_go (T' := s₁) (g' := (mkF m 9 #[iv x0, iv x1, iv x2, iv la, .unset, .unset, .unset, .unset, .unset, .unset, .unset, .unset, .unset, .unset, .unset, .unset, .unset, .unset] [])) (fun t k => XS.istoreN X0.here hx rfl (hb hby at_8) rfl (l' := #[iv x0, iv x1, iv x2, iv la, .unset, .unset, .unset, .unset, .unset, .unset, .unset, .unset, .unset, .unset, .unset, .unset, .unset, .unset]) rfl k) ?_
  refine own_go (T' := s₁) (g' := (mkF m 10 #[iv x0, iv x1, iv x2, iv la, .unset, .unset, .unset, .unset, .unset, .unset, .unset, .unset, .unset, .unset, .unset, .unset, .unset, .unset] [(.int (1 : Int32))])) (fun t k => XS.iconst X0.here hx rfl (hb hby at_9) k) ?_
  refine own_go (T' := s₁) (g' := (mkF m 11 #[iv x0, iv x1, iv x2, iv la, .unset, .unset, .unset, .unset, .unset, .unset, .unset, .unset, .unset, .unset, .unset, .unset, .unset, .unset] [(.int x2), (.int (1 : Int32))])) (fun t k => XS.iloadN X0.here hx rfl (hb hby at_10) rfl k) ?_
  refine own_go (T' := s₁) (g' := (mkF m 12 #[iv x0, iv x1, iv x2, iv la, .unset, .unset, .unset, .unset, .unset, .unset, .unset, .unset, .unset, .unset, .unset, .unset, .unset, .unset] [(.int (2 : Int32)), (.int x2), (.int (1 : Int32))])) (fun t k => XS.iconst X0.here hx rfl (hb hby at_11) k) ?_
  refine own_go (T' := s₁) (g' := (mkF m 13 #[iv x0, iv x1, iv x2, iv la, .unset, .unset, .unset, .unset, .unset, .unset, .unset, .unset, .unset, .unset, .unset, .unset, .unset, .unset] [(.int ((x2.toUInt32 >>> ((2 : Int32) &&& 31).toUInt32).toInt32)), (.int (1 : Int32))])) (fun t k => XS.iushr X0.here hx rfl (hb hby at_12) rfl k) ?_
  refine own_go (T' := s₁) (g' := (mkF m 14 #[iv x0, iv x1, iv x2, iv la, .unset, .unset, .unset, .unset, .unset, .unset, .unset, .unset, .unset, .unset, .unset, .unset, .unset, .unset] [(.int (3 : Int32)), (.int ((x2.toUInt32 >>> ((2 : Int32) &&& 31).toUInt32).toInt32)), (.int (1 : Int32))])) (fun t k => XS.iconst X0.here hx rfl (hb hby at_13) k) ?_
  refine own_go (T' := s₁) (g' := (mkF m 15 #[iv x0, iv x1, iv x2, iv la, .unset, .unset, .unset, .unset, .unset, .unset, .unset, .unset, .unset, .unset, .unset, .unset, .unset, .unset] [(.int (((x2.toUInt32 >>> ((2 : Int32) &&& 31).toUInt32).toInt32) % (3 : Int32))), (.int (1 : Int32))])) (fun t k => Jvm.RoadKit.iremM X0 hx rfl (hb hby at_14) rfl (by decide) k) ?_
  refine own_go (T' := s₁) (g' := (mkF m 16 #[iv x0, iv x1, iv x2, iv la, .unset, .unset, .unset, .unset, .unset, .unset, .unset, .unset, .unset, .unset, .unset, .unset, .unset, .unset] [(.int ((1 : Int32) + (((x2.toUInt32 >>> ((2 : Int32) &&& 31).toUInt32).toInt32) % (3 : Int32))))])) (fun t k => XS.iadd X0.here hx rfl (hb hby at_15) rfl k) ?_
  obtain ⟨lb, g_lb⟩ : ∃ z, z = ((1 : Int32) + (((x2.toUInt32 >>> ((2 : Int32) &&& 31).toUInt32).toInt32) % (3 : Int32))) := ⟨_, rfl⟩
  have hl_lb := own_lb x2
  rw [← g_lb] at hl_lb ⊢
  refine own_go (T' := s₁) (g' := (mkF m 18 #[iv x0, iv x1, iv x2, iv la, iv lb, .unset, .unset, .unset, .unset, .unset, .unset, .unset, .unset, .unset, .unset, .unset, .unset, .unset] [])) (fun t k => XS.istore X0.here hx rfl (hb hby at_16) rfl (l' := #[iv x0, iv x1, iv x2, iv la, iv lb, .unset, .unset, .unset, .unset, .unset, .unset, .unset, .unset, .unset, .unset, .unset, .unset, .unset]) rfl k) ?_
  have jn629 : ∀ (w630 : Int32) (T629 : State) (h629 : Heap) (L629 : List Loc), Stand p l e room_1 s m #[(.int x0), (.int x1), (.int x2)] below meth c T629 L629 0 0 → T629.heap = h629 → Fr n0 L629 → n0 ≤ h629.size → Sta Z h629 "java/lang/String" "COMPACT_STRINGS" "Z" (.int cp) → Sta Z h629 "jdk/internal/util/Preconditions" "SIOOBE_FORMATTER" "Ljava/util/function/BiFunction;" fm → Sta Z h629 "java/nio/charset/StandardCharsets" "UTF_8" "Ljava/nio/charset/Charset;" (.ref u8) → Sta Z h629 "sun/nio/cs/UTF_8" "INSTANCE" "Lsun/nio/cs/UTF_8;" (.ref u8) → own_Ends p e below T629 (mkF m 31 #[iv x0, iv x1, iv x2, iv la, iv lb, .unset, .unset, .unset, .unset, .unset, .unset, .unset, .unset, .unset, .unset, .unset, .unset, .unset] [(.int w630)]) (fun ou Uw => ∃ vu Lu, ou = .returned vu ∧ Q_own_law h0 n0 vu Uw.heap Lu ∧ ReturnedEndW s ou Uw Lu 32 1152) := by
    intro w630 T629 h629 L629 X629 e629 N629 hz629 j631 j632 j633 j634
    refine own_go (T' := T629) (g' := (mkF m 33 #[iv x0, iv x1, iv x2, iv la, iv lb, iv w630, .unset, .unset, .unset, .unset, .unset, .unset, .unset, .unset, .unset, .unset, .unset, .unset] [])) (fun t k => XS.istore X629.here hx rfl (hb hby at_31) rfl (l' := #[iv x0, iv x1, iv x2, iv la, iv lb, iv w630, .unset, .unset, .unset, .unset, .unset, .unset, .unset, .unset, .unset, .unset, .unset, .unset]) rfl k) ?_
    refine own_go (T' := T629) (g' := (mkF m 34 #[iv x0, iv x1, iv x2, iv la, iv lb, iv w630, .unset, .unset, .unset, .unset, .unset, .unset, .unset, .unset, .unset, .unset, .unset, .unset] [(.int x0)])) (fun t k => XS.iloadN X629.here hx rfl (hb hby at_33) rfl k) ?_
    refine own_go (T' := T629) (g' := (mkF m 35 #[iv x0, iv x1, iv x2, iv la, iv lb, iv w630, .unset, .unset, .unset, .unset, .unset, .unset, .unset, .unset, .unset, .unset, .unset, .unset] [(.int (0 : Int32)), (.int x0)])) (fun t k => XS.iconst X629.here hx rfl (hb hby at_34) k) ?_
    obtain ⟨_, _, ⟨T635, L635, k635, n635⟩, -, X635, ⟨Lc635, hQ635, l635, y635, z635⟩, st635⟩ := Jvm.LawKit.callS X629 hx (y := (⟨"com/example/events_in_order/eventsinorder/model/TopicEqualsPinLaw", "ch", "(II)C"⟩ : MethodName)) hown (mvT hZ (hw _ (List.mem_of_getElem? (i := 1) rfl))) (mvT hZ (hw _ (List.mem_of_getElem? (i := 2) rfl))) (mvT hZ (hw _ (List.mem_of_getElem? (i := 3) rfl))) (mvT hZ (hw _ (List.mem_of_getElem? (i := 4) rfl))) (by decide) (backOf (W := 0) (own_rch l Z a0 hw [] x0 (0 : Int32) h629 n0 hz629) hZ (hw _ (List.mem_of_getElem? (i := 4) rfl)) (hw _ (List.mem_of_getElem? (i := 3) rfl)) (by decide) (by decide)) (g := (mkF m 35 #[iv x0, iv x1, iv x2, iv la, iv lb, iv w630, .unset, .unset, .unset, .unset, .unset, .unset, .unset, .unset, .unset, .unset, .unset, .unset] [(.int (0 : Int32)), (.int x0)])) rfl (by rw [hml]; rfl) (argsL := [(.int x0), (.int (0 : Int32))]) (rest := []) (lenOf own_pd20 rfl) rfl (by show 2 * 0 + _ ≤ _; exact Nat.le_of_eq rfl) (hb hby at_35) (fun _ _ => ⟨rfl, e629, (by decide : 0 + 0 ≤ _), (by decide : 0 + 0 ≤ _)⟩)
    dsimp only [Pt.U, Pt.locs, Pt.cells, Pt.slots] at X635 l635 y635 z635 st635 hQ635
    subst l635 y635 z635
    obtain ⟨rfl, rfl, e635⟩ := hQ635
    have E635q : T635.heap = h629 := e635
    have N635 := Fr.app N629 (Fr.nil n0)
    refine own_go (T' := T635) (g' := (mkF m 38 #[iv x0, iv x1, iv x2, iv la, iv lb, iv w630, .unset, .unset, .unset, .unset, .unset, .unset, .unset, .unset, .unset, .unset, .unset, .unset] [(.int (own_chr x0 (0 : Int32)))])) (st635) ?_
    refine own_go (T' := T635) (g' := (mkF m 40 #[iv x0, iv x1, iv x2, iv la, iv lb, iv w630, iv (own_chr x0 (0 : Int32)), .unset, .unset, .unset, .unset, .unset, .unset, .unset, .unset, .unset, .unset, .unset] [])) (fun t k => XS.istore X635.here hx rfl (hb hby at_38) rfl (l' := #[iv x0, iv x1, iv x2, iv la, iv lb, iv w630, iv (own_chr x0 (0 : Int32)), .unset, .unset, .unset, .unset, .unset, .unset, .unset, .unset, .unset, .unset, .unset]) rfl k) ?_
    refine own_go (T' := T635) (g' := (mkF m 41 #[iv x0, iv x1, iv x2, iv la, iv lb, iv w630, iv (own_chr x0 (0 : Int32)), .unset, .unset, .unset, .unset, .unset, .unset, .unset, .unset, .unset, .unset, .unset] [(.int x0)])) (fun t k => XS.iloadN X635.here hx rfl (hb hby at_40) rfl k) ?_
    refine own_go (T' := T635) (g' := (mkF m 43 #[iv x0, iv x1, iv x2, iv la, iv lb, iv w630, iv (own_chr x0 (0 : Int32)), .unset, .unset, .unset, .unset, .unset, .unset, .unset, .unset, .unset, .unset, .unset] [(.int (8 : Int32)), (.int x0)])) (fun t k => XS.bipush X635.here hx rfl (hb hby at_41) k) ?_
    obtain ⟨_, _, ⟨T636, L636, k636, n636⟩, -, X636, ⟨Lc636, hQ636, l636, y636, z636⟩, st636⟩ := Jvm.LawKit.callS X635 hx (y := (⟨"com/example/events_in_order/eventsinorder/model/TopicEqualsPinLaw", "ch", "(II)C"⟩ : MethodName)) hown (mvT hZ (hw _ (List.mem_of_getElem? (i := 1) rfl))) (mvT hZ (hw _ (List.mem_of_getElem? (i := 2) rfl))) (mvT hZ (hw _ (List.mem_of_getElem? (i := 3) rfl))) (mvT hZ (hw _ (List.mem_of_getElem? (i := 4) rfl))) (by decide) (backOf (W := 0) (own_rch l Z a0 hw [] x0 (8 : Int32) h629 n0 hz629) hZ (hw _ (List.mem_of_getElem? (i := 4) rfl)) (hw _ (List.mem_of_getElem? (i := 3) rfl)) (by decide) (by decide)) (g := (mkF m 43 #[iv x0, iv x1, iv x2, iv la, iv lb, iv w630, iv (own_chr x0 (0 : Int32)), .unset, .unset, .unset, .unset, .unset, .unset, .unset, .unset, .unset, .unset, .unset] [(.int (8 : Int32)), (.int x0)])) rfl (by rw [hml]; rfl) (argsL := [(.int x0), (.int (8 : Int32))]) (rest := []) (lenOf own_pd20 rfl) rfl (by show 2 * 0 + _ ≤ _; exact Nat.le_of_eq rfl) (hb hby at_43) (fun _ _ => ⟨rfl, E635q, (by decide : 0 + 0 ≤ _), (by decide : 0 + 0 ≤ _)⟩)
    dsimp only [Pt.U, Pt.locs, Pt.cells, Pt.slots] at X636 l636 y636 z636 st636 hQ636
    subst l636 y636 z636
    obtain ⟨rfl, rfl, e636⟩ := hQ636
    have E636q : T636.heap = h629 := e636
    have N636 := Fr.app N635 (Fr.nil n0)
    refine own_go (T' := T636) (g' := (mkF m 46 #[iv x0, iv x1, iv x2, iv la, iv lb, iv w630, iv (own_chr x0 (0 : Int32)), .unset, .unset, .unset, .unset, .unset, .unset, .unset, .unset, .unset, .unset, .unset] [(.int (own_chr x0 (8 : Int32)))])) (st636) ?_
    refine own_go (T' := T636) (g' := (mkF m 48 #[iv x0, iv x1, iv x2, iv la, iv lb, iv w630, iv (own_chr x0 (0 : Int32)), iv (own_chr x0 (8 : Int32)), .unset, .unset, .unset, .unset, .unset, .unset, .unset, .unset, .unset, .unset] [])) (fun t k => XS.istore X636.here hx rfl (hb hby at_46) rfl (l' := #[iv x0, iv x1, iv x2, iv la, iv lb, iv w630, iv (own_chr x0 (0 : Int32)), iv (own_chr x0 (8 : Int32)), .unset, .unset, .unset, .unset, .unset, .unset, .unset, .unset, .unset, .unset]) rfl k) ?_
    refine own_go (T' := T636) (g' := (mkF m 49 #[iv x0, iv x1, iv x2, iv la, iv lb, iv w630, iv (own_chr x0 (0 : Int32)), iv (own_chr x0 (8 : Int32)), .unset, .unset, .unset, .unset, .unset, .unset, .unset, .unset, .unset, .unset] [(.int x0)])) (fun t k => XS.iloadN X636.here hx rfl (hb hby at_48) rfl k) ?_
    refine own_go (T' := T636) (g' := (mkF m 51 #[iv x0, iv x1, iv x2, iv la, iv lb, iv w630, iv (own_chr x0 (0 : Int32)), iv (own_chr x0 (8 : Int32)), .unset, .unset, .unset, .unset, .unset, .unset, .unset, .unset, .unset, .unset] [(.int (16 : Int32)), (.int x0)])) (fun t k => XS.bipush X636.here hx rfl (hb hby at_49) k) ?_
    obtain ⟨_, _, ⟨T637, L637, k637, n637⟩, -, X637, ⟨Lc637, hQ637, l637, y637, z637⟩, st637⟩ := Jvm.LawKit.callS X636 hx (y := (⟨"com/example/events_in_order/eventsinorder/model/TopicEqualsPinLaw", "ch", "(II)C"⟩ : MethodName)) hown (mvT hZ (hw _ (List.mem_of_getElem? (i := 1) rfl))) (mvT hZ (hw _ (List.mem_of_getElem? (i := 2) rfl))) (mvT hZ (hw _ (List.mem_of_getElem? (i := 3) rfl))) (mvT hZ (hw _ (List.mem_of_getElem? (i := 4) rfl))) (by decide) (backOf (W := 0) (own_rch l Z a0 hw [] x0 (16 : Int32) h629 n0 hz629) hZ (hw _ (List.mem_of_getElem? (i := 4) rfl)) (hw _ (List.mem_of_getElem? (i := 3) rfl)) (by decide) (by decide)) (g := (mkF m 51 #[iv x0, iv x1, iv x2, iv la, iv lb, iv w630, iv (own_chr x0 (0 : Int32)), iv (own_chr x0 (8 : Int32)), .unset, .unset, .unset, .unset, .unset, .unset, .unset, .unset, .unset, .unset] [(.int (16 : Int32)), (.int x0)])) rfl (by rw [hml]; rfl) (argsL := [(.int x0), (.int (16 : Int32))]) (rest := []) (lenOf own_pd20 rfl) rfl (by show 2 * 0 + _ ≤ _; exact Nat.le_of_eq rfl) (hb hby at_51) (fun _ _ => ⟨rfl, E636q, (by decide : 0 + 0 ≤ _), (by decide : 0 + 0 ≤ _)⟩)
    dsimp only [Pt.U, Pt.locs, Pt.cells, Pt.slots] at X637 l637 y637 z637 st637 hQ637
    subst l637 y637 z637
    obtain ⟨rfl, rfl, e637⟩ := hQ637
    have E637q : T637.heap = h629 := e637
    have N637 := Fr.app N636 (Fr.nil n0)
    refine own_go (T' := T637) (g' := (mkF m 54 #[iv x0, iv x1, iv x2, iv la, iv lb, iv w630, iv (own_chr x0 (0 : Int32)), iv (own_chr x0 (8 : Int32)), .unset, .unset, .unset, .unset, .unset, .unset, .unset, .unset, .unset, .unset] [(.int (own_chr x0 (16 : Int32)))])) (st637) ?_
    refine own_go (T' := T637) (g' := (mkF m 56 #[iv x0, iv x1, iv x2, iv la, iv lb, iv w630, iv (own_chr x0 (0 : Int32)), iv (own_chr x0 (8 : Int32)), iv (own_chr x0 (16 : Int32)), .unset, .unset, .unset, .unset, .unset, .unset, .unset, .unset, .unset] [])) (fun t k => XS.istore X637.here hx rfl (hb hby at_54) rfl (l' := #[iv x0, iv x1, iv x2, iv la, iv lb, iv w630, iv (own_chr x0 (0 : Int32)), iv (own_chr x0 (8 : Int32)), iv (own_chr x0 (16 : Int32)), .unset, .unset, .unset, .unset, .unset, .unset, .unset, .unset, .unset]) rfl k) ?_
    refine own_go (T' := T637) (g' := (mkF m 58 #[iv x0, iv x1, iv x2, iv la, iv lb, iv w630, iv (own_chr x0 (0 : Int32)), iv (own_chr x0 (8 : Int32)), iv (own_chr x0 (16 : Int32)), .unset, .unset, .unset, .unset, .unset, .unset, .unset, .unset, .unset] [(.int w630)])) (fun t k => XS.iload X637.here hx rfl (hb hby at_56) rfl k) ?_
    refine own_go (T' := T637) (g' := (mkF m 59 #[iv x0, iv x1, iv x2, iv la, iv lb, iv w630, iv (own_chr x0 (0 : Int32)), iv (own_chr x0 (8 : Int32)), iv (own_chr x0 (16 : Int32)), .unset, .unset, .unset, .unset, .unset, .unset, .unset, .unset, .unset] [(.int (0 : Int32)), (.int w630)])) (fun t k => XS.iconst X637.here hx rfl (hb hby at_58) k) ?_
    obtain ⟨_, _, ⟨T638, L638, k638, n638⟩, -, X638, ⟨Lc638, hQ638, l638, y638, z638⟩, st638⟩ := Jvm.LawKit.callS X637 hx (y := (⟨"com/example/events_in_order/eventsinorder/model/TopicEqualsPinLaw", "ch", "(II)C"⟩ : MethodName)) hown (mvT hZ (hw _ (List.mem_of_getElem? (i := 1) rfl))) (mvT hZ (hw _ (List.mem_of_getElem? (i := 2) rfl))) (mvT hZ (hw _ (List.mem_of_getElem? (i := 3) rfl))) (mvT hZ (hw _ (List.mem_of_getElem? (i := 4) rfl))) (by decide) (backOf (W := 0) (own_rch l Z a0 hw [] w630 (0 : Int32) h629 n0 hz629) hZ (hw _ (List.mem_of_getElem? (i := 4) rfl)) (hw _ (List.mem_of_getElem? (i := 3) rfl)) (by decide) (by decide)) (g := (mkF m 59 #[iv x0, iv x1, iv x2, iv la, iv lb, iv w630, iv (own_chr x0 (0 : Int32)), iv (own_chr x0 (8 : Int32)), iv (own_chr x0 (16 : Int32)), .unset, .unset, .unset, .unset, .unset, .unset, .unset, .unset, .unset] [(.int (0 : Int32)), (.int w630)])) rfl (by rw [hml]; rfl) (argsL := [(.int w630), (.int (0 : Int32))]) (rest := []) (lenOf own_pd20 rfl) rfl (by show 2 * 0 + _ ≤ _; exact Nat.le_of_eq rfl) (hb hby at_59) (fun _ _ => ⟨rfl, E637q, (by decide : 0 + 0 ≤ _), (by decide : 0 + 0 ≤ _)⟩)
    dsimp only [Pt.U, Pt.locs, Pt.cells, Pt.slots] at X638 l638 y638 z638 st638 hQ638
    subst l638 y638 z638
    obtain ⟨rfl, rfl, e638⟩ := hQ638
    have E638q : T638.heap = h629 := e638
    have N638 := Fr.app N637 (Fr.nil n0)
    refine own_go (T' := T638) (g' := (mkF m 62 #[iv x0, iv x1, iv x2, iv la, iv lb, iv w630, iv (own_chr x0 (0 : Int32)), iv (own_chr x0 (8 : Int32)), iv (own_chr x0 (16 : Int32)), .unset, .unset, .unset, .unset, .unset, .unset, .unset, .unset, .unset] [(.int (own_chr w630 (0 : Int32)))])) (st638) ?_
    refine own_go (T' := T638) (g' := (mkF m 64 #[iv x0, iv x1, iv x2, iv la, iv lb, iv w630, iv (own_chr x0 (0 : Int32)), iv (own_chr x0 (8 : Int32)), iv (own_chr x0 (16 : Int32)), iv (own_chr w630 (0 : Int32)), .unset, .unset, .unset, .unset, .unset, .unset, .unset, .unset] [])) (fun t k => XS.istore X638.here hx rfl (hb hby at_62) rfl (l' := #[iv x0, iv x1, iv x2, iv la, iv lb, iv w630, iv (own_chr x0 (0 : Int32)), iv (own_chr x0 (8 : Int32)), iv (own_chr x0 (16 : Int32)), iv (own_chr w630 (0 : Int32)), .unset, .unset, .unset, .unset, .unset, .unset, .unset, .unset]) rfl k) ?_
    refine own_go (T' := T638) (g' := (mkF m 66 #[iv x0, iv x1, iv x2, iv la, iv lb, iv w630, iv (own_chr x0 (0 : Int32)), iv (own_chr x0 (8 : Int32)), iv (own_chr x0 (16 : Int32)), iv (own_chr w630 (0 : Int32)), .unset, .unset, .unset, .unset, .unset, .unset, .unset, .unset] [(.int w630)])) (fun t k => XS.iload X638.here hx rfl (hb hby at_64) rfl k) ?_
    refine own_go (T' := T638) (g' := (mkF m 68 #[iv x0, iv x1, iv x2, iv la, iv lb, iv w630, iv (own_chr x0 (0 : Int32)), iv (own_chr x0 (8 : Int32)), iv (own_chr x0 (16 : Int32)), iv (own_chr w630 (0 : Int32)), .unset, .unset, .unset, .unset, .unset, .unset, .unset, .unset] [(.int (8 : Int32)), (.int w630)])) (fun t k => XS.bipush X638.here hx rfl (hb hby at_66) k) ?_
    obtain ⟨_, _, ⟨T639, L639, k639, n639⟩, -, X639, ⟨Lc639, hQ639, l639, y639, z639⟩, st639⟩ := Jvm.LawKit.callS X638 hx (y := (⟨"com/example/events_in_order/eventsinorder/model/TopicEqualsPinLaw", "ch", "(II)C"⟩ : MethodName)) hown (mvT hZ (hw _ (List.mem_of_getElem? (i := 1) rfl))) (mvT hZ (hw _ (List.mem_of_getElem? (i := 2) rfl))) (mvT hZ (hw _ (List.mem_of_getElem? (i := 3) rfl))) (mvT hZ (hw _ (List.mem_of_getElem? (i := 4) rfl))) (by decide) (backOf (W := 0) (own_rch l Z a0 hw [] w630 (8 : Int32) h629 n0 hz629) hZ (hw _ (List.mem_of_getElem? (i := 4) rfl)) (hw _ (List.mem_of_getElem? (i := 3) rfl)) (by decide) (by decide)) (g := (mkF m 68 #[iv x0, iv x1, iv x2, iv la, iv lb, iv w630, iv (own_chr x0 (0 : Int32)), iv (own_chr x0 (8 : Int32)), iv (own_chr x0 (16 : Int32)), iv (own_chr w630 (0 : Int32)), .unset, .unset, .unset, .unset, .unset, .unset, .unset, .unset] [(.int (8 : Int32)), (.int w630)])) rfl (by rw [hml]; rfl) (argsL := [(.int w630), (.int (8 : Int32))]) (rest := []) (lenOf own_pd20 rfl) rfl (by show 2 * 0 + _ ≤ _; exact Nat.le_of_eq rfl) (hb hby at_68) (fun _ _ => ⟨rfl, E638q, (by decide : 0 + 0 ≤ _), (by decide : 0 + 0 ≤ _)⟩)
    dsimp only [Pt.U, Pt.locs, Pt.cells, Pt.slots] at X639 l639 y639 z639 st639 hQ639
    subst l639 y639 z639
    obtain ⟨rfl, rfl, e639⟩ := hQ639
    have E639q : T639.heap = h629 := e639
    have N639 := Fr.app N638 (Fr.nil n0)
    refine own_go (T' := T639) (g' := (mkF m 71 #[iv x0, iv x1, iv x2, iv la, iv lb, iv w630, iv (own_chr x0 (0 : Int32)), iv (own_chr x0 (8 : Int32)), iv (own_chr x0 (16 : Int32)), iv (own_chr w630 (0 : Int32)), .unset, .unset, .unset, .unset, .unset, .unset, .unset, .unset] [(.int (own_chr w630 (8 : Int32)))])) (st639) ?_
    refine own_go (T' := T639) (g' := (mkF m 73 #[iv x0, iv x1, iv x2, iv la, iv lb, iv w630, iv (own_chr x0 (0 : Int32)), iv (own_chr x0 (8 : Int32)), iv (own_chr x0 (16 : Int32)), iv (own_chr w630 (0 : Int32)), iv (own_chr w630 (8 : Int32)), .unset, .unset, .unset, .unset, .unset, .unset, .unset] [])) (fun t k => XS.istore X639.here hx rfl (hb hby at_71) rfl (l' := #[iv x0, iv x1, iv x2, iv la, iv lb, iv w630, iv (own_chr x0 (0 : Int32)), iv (own_chr x0 (8 : Int32)), iv (own_chr x0 (16 : Int32)), iv (own_chr w630 (0 : Int32)), iv (own_chr w630 (8 : Int32)), .unset, .unset, .unset, .unset, .unset, .unset, .unset]) rfl k) ?_
    refine own_go (T' := T639) (g' := (mkF m 75 #[iv x0, iv x1, iv x2, iv la, iv lb, iv w630, iv (own_chr x0 (0 : Int32)), iv (own_chr x0 (8 : Int32)), iv (own_chr x0 (16 : Int32)), iv (own_chr w630 (0 : Int32)), iv (own_chr w630 (8 : Int32)), .unset, .unset, .unset, .unset, .unset, .unset, .unset] [(.int w630)])) (fun t k => XS.iload X639.here hx rfl (hb hby at_73) rfl k) ?_
    refine own_go (T' := T639) (g' := (mkF m 77 #[iv x0, iv x1, iv x2, iv la, iv lb, iv w630, iv (own_chr x0 (0 : Int32)), iv (own_chr x0 (8 : Int32)), iv (own_chr x0 (16 : Int32)), iv (own_chr w630 (0 : Int32)), iv (own_chr w630 (8 : Int32)), .unset, .unset, .unset, .unset, .unset, .unset, .unset] [(.int (16 : Int32)), (.int w630)])) (fun t k => XS.bipush X639.here hx rfl (hb hby at_75) k) ?_
    obtain ⟨_, _, ⟨T640, L640, k640, n640⟩, -, X640, ⟨Lc640, hQ640, l640, y640, z640⟩, st640⟩ := Jvm.LawKit.callS X639 hx (y := (⟨"com/example/events_in_order/eventsinorder/model/TopicEqualsPinLaw", "ch", "(II)C"⟩ : MethodName)) hown (mvT hZ (hw _ (List.mem_of_getElem? (i := 1) rfl))) (mvT hZ (hw _ (List.mem_of_getElem? (i := 2) rfl))) (mvT hZ (hw _ (List.mem_of_getElem? (i := 3) rfl))) (mvT hZ (hw _ (List.mem_of_getElem? (i := 4) rfl))) (by decide) (backOf (W := 0) (own_rch l Z a0 hw [] w630 (16 : Int32) h629 n0 hz629) hZ (hw _ (List.mem_of_getElem? (i := 4) rfl)) (hw _ (List.mem_of_getElem? (i := 3) rfl)) (by decide) (by decide)) (g := (mkF m 77 #[iv x0, iv x1, iv x2, iv la, iv lb, iv w630, iv (own_chr x0 (0 : Int32)), iv (own_chr x0 (8 : Int32)), iv (own_chr x0 (16 : Int32)), iv (own_chr w630 (0 : Int32)), iv (own_chr w630 (8 : Int32)), .unset, .unset, .unset, .unset, .unset, .unset, .unset] [(.int (16 : Int32)), (.int w630)])) rfl (by rw [hml]; rfl) (argsL := [(.int w630), (.int (16 : Int32))]) (rest := []) (lenOf own_pd20 rfl) rfl (by show 2 * 0 + _ ≤ _; exact Nat.le_of_eq rfl) (hb hby at_77) (fun _ _ => ⟨rfl, E639q, (by decide : 0 + 0 ≤ _), (by decide : 0 + 0 ≤ _)⟩)
    dsimp only [Pt.U, Pt.locs, Pt.cells, Pt.slots] at X640 l640 y640 z640 st640 hQ640
    subst l640 y640 z640
    obtain ⟨rfl, rfl, e640⟩ := hQ640
    have E640q : T640.heap = h629 := e640
    have N640 := Fr.app N639 (Fr.nil n0)
    refine own_go (T' := T640) (g' := (mkF m 80 #[iv x0, iv x1, iv x2, iv la, iv lb, iv w630, iv (own_chr x0 (0 : Int32)), iv (own_chr x0 (8 : Int32)), iv (own_chr x0 (16 : Int32)), iv (own_chr w630 (0 : Int32)), iv (own_chr w630 (8 : Int32)), .unset, .unset, .unset, .unset, .unset, .unset, .unset] [(.int (own_chr w630 (16 : Int32)))])) (st640) ?_
    refine own_go (T' := T640) (g' := (mkF m 82 #[iv x0, iv x1, iv x2, iv la, iv lb, iv w630, iv (own_chr x0 (0 : Int32)), iv (own_chr x0 (8 : Int32)), iv (own_chr x0 (16 : Int32)), iv (own_chr w630 (0 : Int32)), iv (own_chr w630 (8 : Int32)), iv (own_chr w630 (16 : Int32)), .unset, .unset, .unset, .unset, .unset, .unset] [])) (fun t k => XS.istore X640.here hx rfl (hb hby at_80) rfl (l' := #[iv x0, iv x1, iv x2, iv la, iv lb, iv w630, iv (own_chr x0 (0 : Int32)), iv (own_chr x0 (8 : Int32)), iv (own_chr x0 (16 : Int32)), iv (own_chr w630 (0 : Int32)), iv (own_chr w630 (8 : Int32)), iv (own_chr w630 (16 : Int32)), .unset, .unset, .unset, .unset, .unset, .unset]) rfl k) ?_
    refine own_go (T' := T640) (g' := (mkF m 83 #[iv x0, iv x1, iv x2, iv la, iv lb, iv w630, iv (own_chr x0 (0 : Int32)), iv (own_chr x0 (8 : Int32)), iv (own_chr x0 (16 : Int32)), iv (own_chr w630 (0 : Int32)), iv (own_chr w630 (8 : Int32)), iv (own_chr w630 (16 : Int32)), .unset, .unset, .unset, .unset, .unset, .unset] [(.int la)])) (fun t k => XS.iloadN X640.here hx rfl (hb hby at_82) rfl k) ?_
    refine own_go (T' := T640) (g' := (mkF m 85 #[iv x0, iv x1, iv x2, iv la, iv lb, iv w630, iv (own_chr x0 (0 : Int32)), iv (own_chr x0 (8 : Int32)), iv (own_chr x0 (16 : Int32)), iv (own_chr w630 (0 : Int32)), iv (own_chr w630 (8 : Int32)), iv (own_chr w630 (16 : Int32)), .unset, .unset, .unset, .unset, .unset, .unset] [(.int (own_chr x0 (0 : Int32))), (.int la)])) (fun t k => XS.iload X640.here hx rfl (hb hby at_83) rfl k) ?_
    refine own_go (T' := T640) (g' := (mkF m 87 #[iv x0, iv x1, iv x2, iv la, iv lb, iv w630, iv (own_chr x0 (0 : Int32)), iv (own_chr x0 (8 : Int32)), iv (own_chr x0 (16 : Int32)), iv (own_chr w630 (0 : Int32)), iv (own_chr w630 (8 : Int32)), iv (own_chr w630 (16 : Int32)), .unset, .unset, .unset, .unset, .unset, .unset] [(.int (own_chr x0 (8 : Int32))), (.int (own_chr x0 (0 : Int32))), (.int la)])) (fun t k => XS.iload X640.here hx rfl (hb hby at_85) rfl k) ?_
    refine own_go (T' := T640) (g' := (mkF m 89 #[iv x0, iv x1, iv x2, iv la, iv lb, iv w630, iv (own_chr x0 (0 : Int32)), iv (own_chr x0 (8 : Int32)), iv (own_chr x0 (16 : Int32)), iv (own_chr w630 (0 : Int32)), iv (own_chr w630 (8 : Int32)), iv (own_chr w630 (16 : Int32)), .unset, .unset, .unset, .unset, .unset, .unset] [(.int (own_chr x0 (16 : Int32))), (.int (own_chr x0 (8 : Int32))), (.int (own_chr x0 (0 : Int32))), (.int la)])) (fun t k => XS.iload X640.here hx rfl (hb hby at_87) rfl k) ?_
    obtain ⟨_, _, ⟨T641, L641, k641, n641⟩, -, X641, ⟨Lc641, hQ641, l641, y641, z641⟩, st641⟩ := Jvm.LawKit.callS X640 hx (y := (⟨"com/example/events_in_order/eventsinorder/model/TopicEqualsPinLaw", "name", "(ICCC)Ljava/lang/String;"⟩ : MethodName)) hown (mvT hZ (hw _ (List.mem_of_getElem? (i := 5) rfl))) (mvT hZ (hw _ (List.mem_of_getElem? (i := 6) rfl))) (mvT hZ (hw _ (List.mem_of_getElem? (i := 3) rfl))) (mvT hZ (hw _ (List.mem_of_getElem? (i := 7) rfl))) (by decide) (backOf (W := 0) (own_rnm l Z a0 hw [] la (own_chr x0 (0 : Int32)) (own_chr x0 (8 : Int32)) (own_chr x0 (16 : Int32)) cp h629 n0 hz629 (own_chr_C _ _) (own_chr_C _ _) (own_chr_C _ _) j631 hcp) hZ (hw _ (List.mem_of_getElem? (i := 7) rfl)) (hw _ (List.mem_of_getElem? (i := 3) rfl)) (by decide) (by decide)) (g := (mkF m 89 #[iv x0, iv x1, iv x2, iv la, iv lb, iv w630, iv (own_chr x0 (0 : Int32)), iv (own_chr x0 (8 : Int32)), iv (own_chr x0 (16 : Int32)), iv (own_chr w630 (0 : Int32)), iv (own_chr w630 (8 : Int32)), iv (own_chr w630 (16 : Int32)), .unset, .unset, .unset, .unset, .unset, .unset] [(.int (own_chr x0 (16 : Int32))), (.int (own_chr x0 (8 : Int32))), (.int (own_chr x0 (0 : Int32))), (.int la)])) rfl (by rw [hml]; rfl) (argsL := [(.int la), (.int (own_chr x0 (0 : Int32))), (.int (own_chr x0 (8 : Int32))), (.int (own_chr x0 (16 : Int32)))]) (rest := []) (lenOf own_pd21 rfl) rfl (by show 2 * 0 + _ ≤ _; exact Nat.le_of_eq rfl) (hb hby at_89) (fun _ _ => ⟨rfl, E640q, (by decide : 0 + 3 ≤ _), (by decide : 0 + 10 ≤ _)⟩)
    dsimp only [Pt.U, Pt.locs, Pt.cells, Pt.slots] at X641 l641 y641 z641 st641 hQ641
    subst l641 y641 z641
    obtain ⟨s_641, b_641, k_641, rfl, N641q, os_641, ob_641, K_641, e_641, c_641, v_641, V_641, B_641⟩ := hQ641
    have N641 := Fr.app N640 N641q
    have c642 := own_sta_keep j631 K_641 own_ns0
    have c643 := own_sta_keep j632 K_641 own_ns0
    have c644 := own_sta_keep j633 K_641 own_ns0
    have c645 := own_sta_keep j634 K_641 own_ns0
    have hz641 : n0 ≤ T641.heap.size := Nat.le_trans hz629 K_641.1
    refine own_go (T' := T641) (g' := (mkF m 92 #[iv x0, iv x1, iv x2, iv la, iv lb, iv w630, iv (own_chr x0 (0 : Int32)), iv (own_chr x0 (8 : Int32)), iv (own_chr x0 (16 : Int32)), iv (own_chr w630 (0 : Int32)), iv (own_chr w630 (8 : Int32)), iv (own_chr w630 (16 : Int32)), .unset, .unset, .unset, .unset, .unset, .unset] [(.ref s_641)])) (st641) ?_
    refine own_go (T' := T641) (g' := (mkF m 94 #[iv x0, iv x1, iv x2, iv la, iv lb, iv w630, iv (own_chr x0 (0 : Int32)), iv (own_chr x0 (8 : Int32)), iv (own_chr x0 (16 : Int32)), iv (own_chr w630 (0 : Int32)), iv (own_chr w630 (8 : Int32)), iv (own_chr w630 (16 : Int32)), rv s_641, .unset, .unset, .unset, .unset, .unset] [])) (fun t k => XS.astore X641.here hx rfl (hb hby at_92) rfl rfl (l' := #[iv x0, iv x1, iv x2, iv la, iv lb, iv w630, iv (own_chr x0 (0 : Int32)), iv (own_chr x0 (8 : Int32)), iv (own_chr x0 (16 : Int32)), iv (own_chr w630 (0 : Int32)), iv (own_chr w630 (8 : Int32)), iv (own_chr w630 (16 : Int32)), rv s_641, .unset, .unset, .unset, .unset, .unset]) rfl k) ?_
    refine own_go (T' := T641) (g' := (mkF m 96 #[iv x0, iv x1, iv x2, iv la, iv lb, iv w630, iv (own_chr x0 (0 : Int32)), iv (own_chr x0 (8 : Int32)), iv (own_chr x0 (16 : Int32)), iv (own_chr w630 (0 : Int32)), iv (own_chr w630 (8 : Int32)), iv (own_chr w630 (16 : Int32)), rv s_641, .unset, .unset, .unset, .unset, .unset] [(.int lb)])) (fun t k => XS.iload X641.here hx rfl (hb hby at_94) rfl k) ?_
    refine own_go (T' := T641) (g' := (mkF m 98 #[iv x0, iv x1, iv x2, iv la, iv lb, iv w630, iv (own_chr x0 (0 : Int32)), iv (own_chr x0 (8 : Int32)), iv (own_chr x0 (16 : Int32)), iv (own_chr w630 (0 : Int32)), iv (own_chr w630 (8 : Int32)), iv (own_chr w630 (16 : Int32)), rv s_641, .unset, .unset, .unset, .unset, .unset] [(.int (own_chr w630 (0 : Int32))), (.int lb)])) (fun t k => XS.iload X641.here hx rfl (hb hby at_96) rfl k) ?_
    refine own_go (T' := T641) (g' := (mkF m 100 #[iv x0, iv x1, iv x2, iv la, iv lb, iv w630, iv (own_chr x0 (0 : Int32)), iv (own_chr x0 (8 : Int32)), iv (own_chr x0 (16 : Int32)), iv (own_chr w630 (0 : Int32)), iv (own_chr w630 (8 : Int32)), iv (own_chr w630 (16 : Int32)), rv s_641, .unset, .unset, .unset, .unset, .unset] [(.int (own_chr w630 (8 : Int32))), (.int (own_chr w630 (0 : Int32))), (.int lb)])) (fun t k => XS.iload X641.here hx rfl (hb hby at_98) rfl k) ?_
    refine own_go (T' := T641) (g' := (mkF m 102 #[iv x0, iv x1, iv x2, iv la, iv lb, iv w630, iv (own_chr x0 (0 : Int32)), iv (own_chr x0 (8 : Int32)), iv (own_chr x0 (16 : Int32)), iv (own_chr w630 (0 : Int32)), iv (own_chr w630 (8 : Int32)), iv (own_chr w630 (16 : Int32)), rv s_641, .unset, .unset, .unset, .unset, .unset] [(.int (own_chr w630 (16 : Int32))), (.int (own_chr w630 (8 : Int32))), (.int (own_chr w630 (0 : Int32))), (.int lb)])) (fun t k => XS.iload X641.here hx rfl (hb hby at_100) rfl k) ?_
    obtain ⟨_, _, ⟨T646, L646, k646, n646⟩, -, X646, ⟨Lc646, hQ646, l646, y646, z646⟩, st646⟩ := Jvm.LawKit.callS X641 hx (y := (⟨"com/example/events_in_order/eventsinorder/model/TopicEqualsPinLaw", "name", "(ICCC)Ljava/lang/String;"⟩ : MethodName)) hown (mvT hZ (hw _ (List.mem_of_getElem? (i := 5) rfl))) (mvT hZ (hw _ (List.mem_of_getElem? (i := 6) rfl))) (mvT hZ (hw _ (List.mem_of_getElem? (i := 3) rfl))) (mvT hZ (hw _ (List.mem_of_getElem? (i := 7) rfl))) (by decide) (backOf (W := 0) (own_rnm l Z a0 hw [] lb (own_chr w630 (0 : Int32)) (own_chr w630 (8 : Int32)) (own_chr w630 (16 : Int32)) cp T641.heap n0 hz641 (own_chr_C _ _) (own_chr_C _ _) (own_chr_C _ _) c642 hcp) hZ (hw _ (List.mem_of_getElem? (i := 7) rfl)) (hw _ (List.mem_of_getElem? (i := 3) rfl)) (by decide) (by decide)) (g := (mkF m 102 #[iv x0, iv x1, iv x2, iv la, iv lb, iv w630, iv (own_chr x0 (0 : Int32)), iv (own_chr x0 (8 : Int32)), iv (own_chr x0 (16 : Int32)), iv (own_chr w630 (0 : Int32)), iv (own_chr w630 (8 : Int32)), iv (own_chr w630 (16 : Int32)), rv s_641, .unset, .unset, .unset, .unset, .unset] [(.int (own_chr w630 (16 : Int32))), (.int (own_chr w630 (8 : Int32))), (.int (own_chr w630 (0 : Int32))), (.int lb)])) rfl (by rw [hml]; rfl) (argsL := [(.int lb), (.int (own_chr w630 (0 : Int32))), (.int (own_chr w630 (8 : Int32))), (.int (own_chr w630 (16 : Int32)))]) (rest := []) (lenOf own_pd21 rfl) rfl (by show 2 * 0 + _ ≤ _; exact Nat.le_of_eq rfl) (hb hby at_102) (fun _ _ => ⟨rfl, rfl, (by decide : 3 + 3 ≤ _), (by decide : 10 + 10 ≤ _)⟩)
    dsimp only [Pt.U, Pt.locs, Pt.cells, Pt.slots] at X646 l646 y646 z646 st646 hQ646
    subst l646 y646 z646
    obtain ⟨s_646, b_646, k_646, rfl, N646q, os_646, ob_646, K_646, e_646, c_646, v_646, V_646, B_646⟩ := hQ646
    have N646 := Fr.app N641 N646q
    have nq647 : s_641 ≠ s_646 := Nat.ne_of_lt (Nat.lt_of_lt_of_le e_641.lt os_646)
    have nq648 : b_641 ≠ s_646 := Nat.ne_of_lt (Nat.lt_of_lt_of_le V_641.lt os_646)
    have nq649 : s_641 ≠ b_646 := Nat.ne_of_lt (Nat.lt_of_lt_of_le e_641.lt ob_646)
    have nq650 : b_641 ≠ b_646 := Nat.ne_of_lt (Nat.lt_of_lt_of_le V_641.lt ob_646)
    have c651 := own_sta_keep c642 K_646 own_ns0
    have c652 := own_sta_keep c643 K_646 own_ns0
    have c653 := own_sta_keep c644 K_646 own_ns0
    have c654 := own_sta_keep c645 K_646 own_ns0
    have c655 := e_641.keep K_646
    have c656 := c_641.keep K_646 nin0
    have c657 := v_641.keep K_646 nin0
    have c658 := V_641.keep K_646 nin0
    have c659 := B_641.keep K_646
    have hz646 : n0 ≤ T646.heap.size := Nat.le_trans hz641 K_646.1
    refine own_go (T' := T646) (g' := (mkF m 105 #[iv x0, iv x1, iv x2, iv la, iv lb, iv w630, iv (own_chr x0 (0 : Int32)), iv (own_chr x0 (8 : Int32)), iv (own_chr x0 (16 : Int32)), iv (own_chr w630 (0 : Int32)), iv (own_chr w630 (8 : Int32)), iv (own_chr w630 (16 : Int32)), rv s_641, .unset, .unset, .unset, .unset, .unset] [(.ref s_646)])) (st646) ?_
    refine own_go (T' := T646) (g' := (mkF m 107 #[iv x0, iv x1, iv x2, iv la, iv lb, iv w630, iv (own_chr x0 (0 : Int32)), iv (own_chr x0 (8 : Int32)), iv (own_chr x0 (16 : Int32)), iv (own_chr w630 (0 : Int32)), iv (own_chr w630 (8 : Int32)), iv (own_chr w630 (16 : Int32)), rv s_641, rv s_646, .unset, .unset, .unset, .unset] [])) (fun t k => XS.astore X646.here hx rfl (hb hby at_105) rfl rfl (l' := #[iv x0, iv x1, iv x2, iv la, iv lb, iv w630, iv (own_chr x0 (0 : Int32)), iv (own_chr x0 (8 : Int32)), iv (own_chr x0 (16 : Int32)), iv (own_chr w630 (0 : Int32)), iv (own_chr w630 (8 : Int32)), iv (own_chr w630 (16 : Int32)), rv s_641, rv s_646, .unset, .unset, .unset, .unset]) rfl k) ?_
    obtain ⟨T660, h660, X660, e660, E660, A660, D660, -, st660⟩ := newO X646 hx hZ hown (hw _ (List.mem_of_getElem? (i := 38) rfl)) (hw _ (List.mem_of_getElem? (i := 39) rfl)) (hw _ (List.mem_of_getElem? (i := 40) rfl)) rfl (g := (mkF m 107 #[iv x0, iv x1, iv x2, iv la, iv lb, iv w630, iv (own_chr x0 (0 : Int32)), iv (own_chr x0 (8 : Int32)), iv (own_chr x0 (16 : Int32)), iv (own_chr w630 (0 : Int32)), iv (own_chr w630 (8 : Int32)), iv (own_chr w630 (16 : Int32)), rv s_641, rv s_646, .unset, .unset, .unset, .unset] [])) rfl (hb hby at_107) (by decide) (by decide)
    obtain ⟨b660, g660⟩ : ∃ z, z = T646.heap.size := ⟨_, rfl⟩
    rw [← g660] at A660 D660 st660
    have gn660 : n0 ≤ b660 := Nat.le_trans hz646 (Nat.le_of_eq g660.symm)
    have hz660 : n0 ≤ h660.size := Nat.le_trans hz646 E660.1
    have c661 := c651.ext E660
    have c662 := c652.ext E660
    have c663 := c653.ext E660
    have c664 := c654.ext E660
    have c665 := c655.ext E660
    have ne666 : s_641 ≠ b660 := Nat.ne_of_lt (Nat.lt_of_lt_of_le c655.lt (Nat.le_of_eq g660.symm))
    have c667 := c656.ext E660
    have c668 := c657.ext E660
    have c669 := c658.ext E660
    have ne670 : b_641 ≠ b660 := Nat.ne_of_lt (Nat.lt_of_lt_of_le c658.lt (Nat.le_of_eq g660.symm))
    have c671 := c659.ext E660
    have c672 := e_646.ext E660
    have ne673 : s_646 ≠ b660 := Nat.ne_of_lt (Nat.lt_of_lt_of_le e_646.lt (Nat.le_of_eq g660.symm))
    have c674 := c_646.ext E660
    have c675 := v_646.ext E660
    have c676 := V_646.ext E660
    have ne677 : b_646 ≠ b660 := Nat.ne_of_lt (Nat.lt_of_lt_of_le V_646.lt (Nat.le_of_eq g660.symm))
    have c678 := B_646.ext E660
    have F660_name : Fld Z h660 b660 "com/example/events_in_order/eventsinorder/model/Topic" "name" "Ljava/lang/String;" .null := D660 (Or.inr (hw _ (List.mem_of_getElem? (i := 122) rfl))) (ty := (.object "java/lang/String")) (by decide)
    have F660_encodedName : Fld Z h660 b660 "com/example/events_in_order/eventsinorder/model/Topic" "encodedName" "[B" .null := D660 (Or.inr (hw _ (List.mem_of_getElem? (i := 124) rfl))) (ty := (.array .byte)) (by decide)
    refine own_go (T' := T660) (g' := (mkF m 110 #[iv x0, iv x1, iv x2, iv la, iv lb, iv w630, iv (own_chr x0 (0 : Int32)), iv (own_chr x0 (8 : Int32)), iv (own_chr x0 (16 : Int32)), iv (own_chr w630 (0 : Int32)), iv (own_chr w630 (8 : Int32)), iv (own_chr w630 (16 : Int32)), rv s_641, rv s_646, .unset, .unset, .unset, .unset] [(.ref b660)])) (st660) ?_
    refine own_go (T' := T660) (g' := (mkF m 111 #[iv x0, iv x1, iv x2, iv la, iv lb, iv w630, iv (own_chr x0 (0 : Int32)), iv (own_chr x0 (8 : Int32)), iv (own_chr x0 (16 : Int32)), iv (own_chr w630 (0 : Int32)), iv (own_chr w630 (8 : Int32)), iv (own_chr w630 (16 : Int32)), rv s_641, rv s_646, .unset, .unset, .unset, .unset] [(.ref b660), (.ref b660)])) (fun t k => XS.dup X660.here hx rfl (hb hby at_110) rfl rfl k) ?_
    refine own_go (T' := T660) (g' := (mkF m 113 #[iv x0, iv x1, iv x2, iv la, iv lb, iv w630, iv (own_chr x0 (0 : Int32)), iv (own_chr x0 (8 : Int32)), iv (own_chr x0 (16 : Int32)), iv (own_chr w630 (0 : Int32)), iv (own_chr w630 (8 : Int32)), iv (own_chr w630 (16 : Int32)), rv s_641, rv s_646, .unset, .unset, .unset, .unset] [(.ref s_641), (.ref b660), (.ref b660)])) (fun t k => XS.aload X660.here hx rfl (hb hby at_111) rfl rfl k) ?_
    obtain ⟨_, _, ⟨T679, L679, k679, n679⟩, -, X679q, hS679q, hle679, ⟨Lc679, hQ679, l679, y679, z679⟩, st679⟩ := X660.specialBackS hx (y := (⟨"com/example/events_in_order/eventsinorder/model/Topic", "<init>", "(Ljava/lang/String;)V"⟩ : MethodName)) rfl hown (mvT hZ (hw _ (List.mem_of_getElem? (i := 41) rfl))) (mvT hZ (hw _ (List.mem_of_getElem? (i := 42) rfl))) (mvT hZ (hw _ (List.mem_of_getElem? (i := 43) rfl))) (by decide) (backOfS (W := 1) (own_rti l Z a0 hw [] b660 s_641 b_641 u8 k_641 (own_ln la) cp fm (own_nm la (own_chr x0 (0 : Int32)) (own_chr x0 (8 : Int32)) (own_chr x0 (16 : Int32))) h660 n0 hz660 A660 gn660 F660_name F660_encodedName c665 c667 c668 c669 c671 (own_nm_ok (own_chr_C _ _) (own_chr_C _ _) (own_chr_C _ _)) ne666 ne670 c661 hcp c662 hfm c663 c664) hZ (hw _ (List.mem_of_getElem? (i := 43) rfl)) (hw _ (List.mem_of_getElem? (i := 40) rfl)) (by decide) (by decide)) (g := (mkF m 113 #[iv x0, iv x1, iv x2, iv la, iv lb, iv w630, iv (own_chr x0 (0 : Int32)), iv (own_chr x0 (8 : Int32)), iv (own_chr x0 (16 : Int32)), iv (own_chr w630 (0 : Int32)), iv (own_chr w630 (8 : Int32)), iv (own_chr w630 (16 : Int32)), rv s_641, rv s_646, .unset, .unset, .unset, .unset] [(.ref s_641), (.ref b660), (.ref b660)])) rfl (by rw [hml]; rfl) (Steps.refl _) (a := b660) (argsL := [(.ref s_641)]) (rest := [(.ref b660)]) (lenOf own_pd22 rfl) rfl (by show 2 * 0 + _ ≤ _; exact Nat.le_of_eq rfl) (hb hby at_113) (fun _ _ => ⟨rfl, e660, (by decide : 7 + 3 ≤ _), (by decide : 22 + 23 ≤ _)⟩)
    dsimp only [Pt.U, Pt.locs, Pt.cells, Pt.slots] at X679q hS679q hle679 l679 y679 z679 st679 hQ679
    subst l679 y679 z679
    obtain ⟨X679, hS679, hZ, hown⟩ := rebS (s := s) (vm0 := s.vm) (k0 := 0) ((State.WarmedH.refl s).since 0) (Nat.zero_le _) X679q hS679q hle679 hZ hown
    obtain ⟨rfl, N679q, K_679, e_679, f_679⟩ := hQ679
    have N679 := Fr.app N646 N679q
    have c680 := own_sta_keep c661 K_679 (own_nsS (own_nse A660) own_ns0)
    have c681 := own_sta_keep c662 K_679 (own_nsS (own_nse A660) own_ns0)
    have c682 := own_sta_keep c663 K_679 (own_nsS (own_nse A660) own_ns0)
    have c683 := own_sta_keep c664 K_679 (own_nsS (own_nse A660) own_ns0)
    have c684 := c665.keep K_679
    have c685 := c667.keep K_679 (ninS ne666 nin0)
    have c686 := c668.keep K_679 (ninS ne666 nin0)
    have c687 := c669.keep K_679 (ninS ne670 nin0)
    have c688 := c671.keep K_679
    have c693 := c672.keep K_679
    have c694 := c674.keep K_679 (ninS ne673 nin0)
    have c695 := c675.keep K_679 (ninS ne673 nin0)
    have c696 := c676.keep K_679 (ninS ne677 nin0)
    have c697 := c678.keep K_679
    have c703 := A660.keep K_679
    have hz679 : n0 ≤ T679.heap.size := Nat.le_trans hz660 K_679.1
    refine own_go (T' := T679) (g' := (mkF m 116 #[iv x0, iv x1, iv x2, iv la, iv lb, iv w630, iv (own_chr x0 (0 : Int32)), iv (own_chr x0 (8 : Int32)), iv (own_chr x0 (16 : Int32)), iv (own_chr w630 (0 : Int32)), iv (own_chr w630 (8 : Int32)), iv (own_chr w630 (16 : Int32)), rv s_641, rv s_646, .unset, .unset, .unset, .unset] [(.ref b660)])) (fun t k => st679.trans k) ?_
    refine own_go (T' := T679) (g' := (mkF m 118 #[iv x0, iv x1, iv x2, iv la, iv lb, iv w630, iv (own_chr x0 (0 : Int32)), iv (own_chr x0 (8 : Int32)), iv (own_chr x0 (16 : Int32)), iv (own_chr w630 (0 : Int32)), iv (own_chr w630 (8 : Int32)), iv (own_chr w630 (16 : Int32)), rv s_641, rv s_646, rv b660, .unset, .unset, .unset] [])) (fun t k => XS.astore X679.here hx rfl (hb hby at_116) rfl rfl (l' := #[iv x0, iv x1, iv x2, iv la, iv lb, iv w630, iv (own_chr x0 (0 : Int32)), iv (own_chr x0 (8 : Int32)), iv (own_chr x0 (16 : Int32)), iv (own_chr w630 (0 : Int32)), iv (own_chr w630 (8 : Int32)), iv (own_chr w630 (16 : Int32)), rv s_641, rv s_646, rv b660, .unset, .unset, .unset]) rfl k) ?_
    refine own_go (T' := T679) (g' := (mkF m 119 #[iv x0, iv x1, iv x2, iv la, iv lb, iv w630, iv (own_chr x0 (0 : Int32)), iv (own_chr x0 (8 : Int32)), iv (own_chr x0 (16 : Int32)), iv (own_chr w630 (0 : Int32)), iv (own_chr w630 (8 : Int32)), iv (own_chr w630 (16 : Int32)), rv s_641, rv s_646, rv b660, .unset, .unset, .unset] [(.int x2)])) (fun t k => XS.iloadN X679.here hx rfl (hb hby at_118) rfl k) ?_
    refine own_go (T' := T679) (g' := (mkF m 120 #[iv x0, iv x1, iv x2, iv la, iv lb, iv w630, iv (own_chr x0 (0 : Int32)), iv (own_chr x0 (8 : Int32)), iv (own_chr x0 (16 : Int32)), iv (own_chr w630 (0 : Int32)), iv (own_chr w630 (8 : Int32)), iv (own_chr w630 (16 : Int32)), rv s_641, rv s_646, rv b660, .unset, .unset, .unset] [(.int (5 : Int32)), (.int x2)])) (fun t k => XS.iconst X679.here hx rfl (hb hby at_119) k) ?_
    refine own_go (T' := T679) (g' := (mkF m 121 #[iv x0, iv x1, iv x2, iv la, iv lb, iv w630, iv (own_chr x0 (0 : Int32)), iv (own_chr x0 (8 : Int32)), iv (own_chr x0 (16 : Int32)), iv (own_chr w630 (0 : Int32)), iv (own_chr w630 (8 : Int32)), iv (own_chr w630 (16 : Int32)), rv s_641, rv s_646, rv b660, .unset, .unset, .unset] [(.int ((x2.toUInt32 >>> ((5 : Int32) &&& 31).toUInt32).toInt32))])) (fun t k => XS.iushr X679.here hx rfl (hb hby at_120) rfl k) ?_
    refine own_go (T' := T679) (g' := (mkF m 122 #[iv x0, iv x1, iv x2, iv la, iv lb, iv w630, iv (own_chr x0 (0 : Int32)), iv (own_chr x0 (8 : Int32)), iv (own_chr x0 (16 : Int32)), iv (own_chr w630 (0 : Int32)), iv (own_chr w630 (8 : Int32)), iv (own_chr w630 (16 : Int32)), rv s_641, rv s_646, rv b660, .unset, .unset, .unset] [(.int (3 : Int32)), (.int ((x2.toUInt32 >>> ((5 : Int32) &&& 31).toUInt32).toInt32))])) (fun t k => XS.iconst X679.here hx rfl (hb hby at_121) k) ?_
    refine own_go (T' := T679) (g' := (mkF m 123 #[iv x0, iv x1, iv x2, iv la, iv lb, iv w630, iv (own_chr x0 (0 : Int32)), iv (own_chr x0 (8 : Int32)), iv (own_chr x0 (16 : Int32)), iv (own_chr w630 (0 : Int32)), iv (own_chr w630 (8 : Int32)), iv (own_chr w630 (16 : Int32)), rv s_641, rv s_646, rv b660, .unset, .unset, .unset] [(.int (((x2.toUInt32 >>> ((5 : Int32) &&& 31).toUInt32).toInt32) &&& (3 : Int32)))])) (fun t k => XS.iand X679.here hx rfl (hb hby at_122) rfl k) ?_
    refine own_go (T' := T679) (g' := (mkF m 125 #[iv x0, iv x1, iv x2, iv la, iv lb, iv w630, iv (own_chr x0 (0 : Int32)), iv (own_chr x0 (8 : Int32)), iv (own_chr x0 (16 : Int32)), iv (own_chr w630 (0 : Int32)), iv (own_chr w630 (8 : Int32)), iv (own_chr w630 (16 : Int32)), rv s_641, rv s_646, rv b660, iv (((x2.toUInt32 >>> ((5 : Int32) &&& 31).toUInt32).toInt32) &&& (3 : Int32)), .unset, .unset] [])) (fun t k => XS.istore X679.here hx rfl (hb hby at_123) rfl (l' := #[iv x0, iv x1, iv x2, iv la, iv lb, iv w630, iv (own_chr x0 (0 : Int32)), iv (own_chr x0 (8 : Int32)), iv (own_chr x0 (16 : Int32)), iv (own_chr w630 (0 : Int32)), iv (own_chr w630 (8 : Int32)), iv (own_chr w630 (16 : Int32)), rv s_641, rv s_646, rv b660, iv (((x2.toUInt32 >>> ((5 : Int32) &&& 31).toUInt32).toInt32) &&& (3 : Int32)), .unset, .unset]) rfl k) ?_
    refine own_go (T' := T679) (g' := (mkF m 127 #[iv x0, iv x1, iv x2, iv la, iv lb, iv w630, iv (own_chr x0 (0 : Int32)), iv (own_chr x0 (8 : Int32)), iv (own_chr x0 (16 : Int32)), iv (own_chr w630 (0 : Int32)), iv (own_chr w630 (8 : Int32)), iv (own_chr w630 (16 : Int32)), rv s_641, rv s_646, rv b660, iv (((x2.toUInt32 >>> ((5 : Int32) &&& 31).toUInt32).toInt32) &&& (3 : Int32)), .unset, .unset] [(.int (((x2.toUInt32 >>> ((5 : Int32) &&& 31).toUInt32).toInt32) &&& (3 : Int32)))])) (fun t k => XS.iload X679.here hx rfl (hb hby at_125) rfl k) ?_
    refine own_go (T' := T679) (g' := (mkF m 128 #[iv x0, iv x1, iv x2, iv la, iv lb, iv w630, iv (own_chr x0 (0 : Int32)), iv (own_chr x0 (8 : Int32)), iv (own_chr x0 (16 : Int32)), iv (own_chr w630 (0 : Int32)), iv (own_chr w630 (8 : Int32)), iv (own_chr w630 (16 : Int32)), rv s_641, rv s_646, rv b660, iv (((x2.toUInt32 >>> ((5 : Int32) &&& 31).toUInt32).toInt32) &&& (3 : Int32)), .unset, .unset] [(.int (1 : Int32)), (.int (((x2.toUInt32 >>> ((5 : Int32) &&& 31).toUInt32).toInt32) &&& (3 : Int32)))])) (fun t k => XS.iconst X679.here hx rfl (hb hby at_127) k) ?_
    by_cases hc706 : (((x2.toUInt32 >>> ((5 : Int32) &&& 31).toUInt32).toInt32) &&& (3 : Int32)) = (1 : Int32)
    · refine own_go (T' := T679) (g' := (mkF m 131 #[iv x0, iv x1, iv x2, iv la, iv lb, iv w630, iv (own_chr x0 (0 : Int32)), iv (own_chr x0 (8 : Int32)), iv (own_chr x0 (16 : Int32)), iv (own_chr w630 (0 : Int32)), iv (own_chr w630 (8 : Int32)), iv (own_chr w630 (16 : Int32)), rv s_641, rv s_646, rv b660, iv (((x2.toUInt32 >>> ((5 : Int32) &&& 31).toUInt32).toInt32) &&& (3 : Int32)), .unset, .unset] [])) (fun t k => XS.icmpNo X679.here hx rfl (hb hby at_128) rfl (teq hc706).2 k) ?_
      refine own_go (T' := T679) (g' := (mkF m 133 #[iv x0, iv x1, iv x2, iv la, iv lb, iv w630, iv (own_chr x0 (0 : Int32)), iv (own_chr x0 (8 : Int32)), iv (own_chr x0 (16 : Int32)), iv (own_chr w630 (0 : Int32)), iv (own_chr w630 (8 : Int32)), iv (own_chr w630 (16 : Int32)), rv s_641, rv s_646, rv b660, iv (((x2.toUInt32 >>> ((5 : Int32) &&& 31).toUInt32).toInt32) &&& (3 : Int32)), .unset, .unset] [(.ref b660)])) (fun t k => XS.aload X679.here hx rfl (hb hby at_131) rfl rfl k) ?_
      refine own_go (T' := T679) (g' := (mkF m 134 #[iv x0, iv x1, iv x2, iv la, iv lb, iv w630, iv (own_chr x0 (0 : Int32)), iv (own_chr x0 (8 : Int32)), iv (own_chr x0 (16 : Int32)), iv (own_chr w630 (0 : Int32)), iv (own_chr w630 (8 : Int32)), iv (own_chr w630 (16 : Int32)), rv s_641, rv s_646, rv b660, iv (((x2.toUInt32 >>> ((5 : Int32) &&& 31).toUInt32).toInt32) &&& (3 : Int32)), .unset, .unset] [.null, (.ref b660)])) (fun t k => XS.aconstNull X679.here hx rfl (hb hby at_133) k) ?_
      obtain ⟨cq707, kq707, q707a, q707b, q707c⟩ := isOf hZ rfl e_679
      obtain ⟨_, _, ⟨T707, L707, k707, n707⟩, -, X707, ⟨Lc707, hQ707, l707, y707, z707⟩, st707⟩ := X679.virtualBack hx (y := (⟨"com/example/events_in_order/eventsinorder/model/Topic", "equals", "(Ljava/lang/Object;)Z"⟩ : MethodName)) (z := (⟨"com/example/events_in_order/eventsinorder/model/Topic", "equals", "(Ljava/lang/Object;)Z"⟩ : MethodName)) hown (mvT hZ (hw _ (List.mem_of_getElem? (i := 125) rfl))) (mvT hZ (hw _ (List.mem_of_getElem? (i := 126) rfl))) (notFace_of_selects (args := #[]) (mvT hZ (hw _ (List.mem_of_getElem? (i := 128) rfl)))) (mvT hZ (hw _ (List.mem_of_getElem? (i := 128) rfl))) (mvT hZ (hw _ (List.mem_of_getElem? (i := 127) rfl))) (by decide) (backOf (W := 0) (own_rtn l Z a0 hw [] b660 T679.heap n0 hz679) hZ (hw _ (List.mem_of_getElem? (i := 129) rfl)) (hw _ (List.mem_of_getElem? (i := 40) rfl)) (by decide) (by decide)) q707a q707c (g := (mkF m 134 #[iv x0, iv x1, iv x2, iv la, iv lb, iv w630, iv (own_chr x0 (0 : Int32)), iv (own_chr x0 (8 : Int32)), iv (own_chr x0 (16 : Int32)), iv (own_chr w630 (0 : Int32)), iv (own_chr w630 (8 : Int32)), iv (own_chr w630 (16 : Int32)), rv s_641, rv s_646, rv b660, iv (((x2.toUInt32 >>> ((5 : Int32) &&& 31).toUInt32).toInt32) &&& (3 : Int32)), .unset, .unset] [.null, (.ref b660)])) rfl (by rw [hml]; rfl) (Steps.refl _) (argsL := [.null]) (rest := []) (lenOf own_pd19 rfl) rfl (by show 2 * 0 + _ ≤ _; exact Nat.le_of_eq rfl) (hb hby at_134) (fun _ _ => ⟨rfl, rfl, (by decide : 10 + 0 ≤ _), (by decide : 45 + 0 ≤ _)⟩)
      dsimp only [Pt.U, Pt.locs, Pt.cells, Pt.slots] at X707 l707 y707 z707 st707 hQ707
      subst l707 y707 z707
      obtain ⟨rfl, rfl, e707⟩ := hQ707
      have E707q : T707.heap = T679.heap := e707
      have N707 := Fr.app N679 (Fr.nil n0)
      refine own_go (T' := T707) (g' := (mkF m 137 #[iv x0, iv x1, iv x2, iv la, iv lb, iv w630, iv (own_chr x0 (0 : Int32)), iv (own_chr x0 (8 : Int32)), iv (own_chr x0 (16 : Int32)), iv (own_chr w630 (0 : Int32)), iv (own_chr w630 (8 : Int32)), iv (own_chr w630 (16 : Int32)), rv s_641, rv s_646, rv b660, iv (((x2.toUInt32 >>> ((5 : Int32) &&& 31).toUInt32).toInt32) &&& (3 : Int32)), .unset, .unset] [(.int (0 : Int32))])) (fun t k => st707.trans k) ?_
      refine own_go (T' := T707) (g' := (mkF m 140 #[iv x0, iv x1, iv x2, iv la, iv lb, iv w630, iv (own_chr x0 (0 : Int32)), iv (own_chr x0 (8 : Int32)), iv (own_chr x0 (16 : Int32)), iv (own_chr w630 (0 : Int32)), iv (own_chr w630 (8 : Int32)), iv (own_chr w630 (16 : Int32)), rv s_641, rv s_646, rv b660, iv (((x2.toUInt32 >>> ((5 : Int32) &&& 31).toUInt32).toInt32) &&& (3 : Int32)), .unset, .unset] [])) (fun t k => XS.ifNo X707.here hx rfl (hb hby at_137) rfl ((if0 _ _).trans (teq (by decide : ((0 : Int32) = (0 : Int32)))).2) k) ?_
      refine own_go (T' := T707) (g' := (mkF m 141 #[iv x0, iv x1, iv x2, iv la, iv lb, iv w630, iv (own_chr x0 (0 : Int32)), iv (own_chr x0 (8 : Int32)), iv (own_chr x0 (16 : Int32)), iv (own_chr w630 (0 : Int32)), iv (own_chr w630 (8 : Int32)), iv (own_chr w630 (16 : Int32)), rv s_641, rv s_646, rv b660, iv (((x2.toUInt32 >>> ((5 : Int32) &&& 31).toUInt32).toInt32) &&& (3 : Int32)), .unset, .unset] [(.int (1 : Int32))])) (fun t k => XS.iconst X707.here hx rfl (hb hby at_140) k) ?_
      refine own_go (T' := T707) (g' := (mkF m 145 #[iv x0, iv x1, iv x2, iv la, iv lb, iv w630, iv (own_chr x0 (0 : Int32)), iv (own_chr x0 (8 : Int32)), iv (own_chr x0 (16 : Int32)), iv (own_chr w630 (0 : Int32)), iv (own_chr w630 (8 : Int32)), iv (own_chr w630 (16 : Int32)), rv s_641, rv s_646, rv b660, iv (((x2.toUInt32 >>> ((5 : Int32) &&& 31).toUInt32).toInt32) &&& (3 : Int32)), .unset, .unset] [(.int (1 : Int32))])) (fun t k => XS.goto X707.here hx rfl (pc0 := 141) (pc' := 145) rfl (hb hby at_141) (by decide) (by decide) k) ?_
      exact own_retW X707 hS679 (by rw [E707q]; exact (Nat.le_refl _)) hlk hx Bd.returns rfl (Or.inl ⟨rfl, Or.inr (Or.inl rfl), _, rfl⟩) (hb hby at_145) (by first | exact ⟨rfl, N707⟩ | (rw [Fr] at *; exact ⟨rfl, by simpa using N707⟩)) (by decide) (by decide)
    · refine own_go (T' := T679) (g' := (mkF m 146 #[iv x0, iv x1, iv x2, iv la, iv lb, iv w630, iv (own_chr x0 (0 : Int32)), iv (own_chr x0 (8 : Int32)), iv (own_chr x0 (16 : Int32)), iv (own_chr w630 (0 : Int32)), iv (own_chr w630 (8 : Int32)), iv (own_chr w630 (16 : Int32)), rv s_641, rv s_646, rv b660, iv (((x2.toUInt32 >>> ((5 : Int32) &&& 31).toUInt32).toInt32) &&& (3 : Int32)), .unset, .unset] [])) (fun t k => XS.icmpYes X679.here hx rfl (pc0 := 128) (pc' := 146) rfl (hb hby at_128) rfl (feq hc706).2 (by decide) (by decide) k) ?_
      refine own_go (T' := T679) (g' := (mkF m 148 #[iv x0, iv x1, iv x2, iv la, iv lb, iv w630, iv (own_chr x0 (0 : Int32)), iv (own_chr x0 (8 : Int32)), iv (own_chr x0 (16 : Int32)), iv (own_chr w630 (0 : Int32)), iv (own_chr w630 (8 : Int32)), iv (own_chr w630 (16 : Int32)), rv s_641, rv s_646, rv b660, iv (((x2.toUInt32 >>> ((5 : Int32) &&& 31).toUInt32).toInt32) &&& (3 : Int32)), .unset, .unset] [(.int (((x2.toUInt32 >>> ((5 : Int32) &&& 31).toUInt32).toInt32) &&& (3 : Int32)))])) (fun t k => XS.iload X679.here hx rfl (hb hby at_146) rfl k) ?_
      refine own_go (T' := T679) (g' := (mkF m 149 #[iv x0, iv x1, iv x2, iv la, iv lb, iv w630, iv (own_chr x0 (0 : Int32)), iv (own_chr x0 (8 : Int32)), iv (own_chr x0 (16 : Int32)), iv (own_chr w630 (0 : Int32)), iv (own_chr w630 (8 : Int32)), iv (own_chr w630 (16 : Int32)), rv s_641, rv s_646, rv b660, iv (((x2.toUInt32 >>> ((5 : Int32) &&& 31).toUInt32).toInt32) &&& (3 : Int32)), .unset, .unset] [(.int (2 : Int32)), (.int (((x2.toUInt32 >>> ((5 : Int32) &&& 31).toUInt32).toInt32) &&& (3 : Int32)))])) (fun t k => XS.iconst X679.here hx rfl (hb hby at_148) k) ?_
      by_cases hc708 : (((x2.toUInt32 >>> ((5 : Int32) &&& 31).toUInt32).toInt32) &&& (3 : Int32)) = (2 : Int32)
      · refine own_go (T' := T679) (g' := (mkF m 152 #[iv x0, iv x1, iv x2, iv la, iv lb, iv w630, iv (own_chr x0 (0 : Int32)), iv (own_chr x0 (8 : Int32)), iv (own_chr x0 (16 : Int32)), iv (own_chr w630 (0 : Int32)), iv (own_chr w630 (8 : Int32)), iv (own_chr w630 (16 : Int32)), rv s_641, rv s_646, rv b660, iv (((x2.toUInt32 >>> ((5 : Int32) &&& 31).toUInt32).toInt32) &&& (3 : Int32)), .unset, .unset] [])) (fun t k => XS.icmpNo X679.here hx rfl (hb hby at_149) rfl (teq hc708).2 k) ?_
        refine own_go (T' := T679) (g' := (mkF m 154 #[iv x0, iv x1, iv x2, iv la, iv lb, iv w630, iv (own_chr x0 (0 : Int32)), iv (own_chr x0 (8 : Int32)), iv (own_chr x0 (16 : Int32)), iv (own_chr w630 (0 : Int32)), iv (own_chr w630 (8 : Int32)), iv (own_chr w630 (16 : Int32)), rv s_641, rv s_646, rv b660, iv (((x2.toUInt32 >>> ((5 : Int32) &&& 31).toUInt32).toInt32) &&& (3 : Int32)), .unset, .unset] [(.ref b660)])) (fun t k => XS.aload X679.here hx rfl (hb hby at_152) rfl rfl k) ?_
        refine own_go (T' := T679) (g' := (mkF m 156 #[iv x0, iv x1, iv x2, iv la, iv lb, iv w630, iv (own_chr x0 (0 : Int32)), iv (own_chr x0 (8 : Int32)), iv (own_chr x0 (16 : Int32)), iv (own_chr w630 (0 : Int32)), iv (own_chr w630 (8 : Int32)), iv (own_chr w630 (16 : Int32)), rv s_641, rv s_646, rv b660, iv (((x2.toUInt32 >>> ((5 : Int32) &&& 31).toUInt32).toInt32) &&& (3 : Int32)), .unset, .unset] [(.ref s_641), (.ref b660)])) (fun t k => XS.aload X679.here hx rfl (hb hby at_154) rfl rfl k) ?_
        obtain ⟨cq709, kq709, q709a, q709b, q709c⟩ := isOf hZ rfl e_679
        obtain ⟨_, _, ⟨T709, L709, k709, n709⟩, -, X709, ⟨Lc709, hQ709, l709, y709, z709⟩, st709⟩ := X679.virtualBack hx (y := (⟨"com/example/events_in_order/eventsinorder/model/Topic", "equals", "(Ljava/lang/Object;)Z"⟩ : MethodName)) (z := (⟨"com/example/events_in_order/eventsinorder/model/Topic", "equals", "(Ljava/lang/Object;)Z"⟩ : MethodName)) hown (mvT hZ (hw _ (List.mem_of_getElem? (i := 125) rfl))) (mvT hZ (hw _ (List.mem_of_getElem? (i := 126) rfl))) (notFace_of_selects (args := #[]) (mvT hZ (hw _ (List.mem_of_getElem? (i := 128) rfl)))) (mvT hZ (hw _ (List.mem_of_getElem? (i := 128) rfl))) (mvT hZ (hw _ (List.mem_of_getElem? (i := 127) rfl))) (by decide) (backOf (W := 0) (own_rts l Z a0 hw [] b660 s_641 T679.heap n0 hz679 c684) hZ (hw _ (List.mem_of_getElem? (i := 129) rfl)) (hw _ (List.mem_of_getElem? (i := 40) rfl)) (by decide) (by decide)) q709a q709c (g := (mkF m 156 #[iv x0, iv x1, iv x2, iv la, iv lb, iv w630, iv (own_chr x0 (0 : Int32)), iv (own_chr x0 (8 : Int32)), iv (own_chr x0 (16 : Int32)), iv (own_chr w630 (0 : Int32)), iv (own_chr w630 (8 : Int32)), iv (own_chr w630 (16 : Int32)), rv s_641, rv s_646, rv b660, iv (((x2.toUInt32 >>> ((5 : Int32) &&& 31).toUInt32).toInt32) &&& (3 : Int32)), .unset, .unset] [(.ref s_641), (.ref b660)])) rfl (by rw [hml]; rfl) (Steps.refl _) (argsL := [(.ref s_641)]) (rest := []) (lenOf own_pd19 rfl) rfl (by show 2 * 0 + _ ≤ _; exact Nat.le_of_eq rfl) (hb hby at_156) (fun _ _ => ⟨rfl, rfl, (by decide : 10 + 0 ≤ _), (by decide : 45 + 0 ≤ _)⟩)
        dsimp only [Pt.U, Pt.locs, Pt.cells, Pt.slots] at X709 l709 y709 z709 st709 hQ709
        subst l709 y709 z709
        obtain ⟨rfl, rfl, e709⟩ := hQ709
        have E709q : T709.heap = T679.heap := e709
        have N709 := Fr.app N679 (Fr.nil n0)
        refine own_go (T' := T709) (g' := (mkF m 159 #[iv x0, iv x1, iv x2, iv la, iv lb, iv w630, iv (own_chr x0 (0 : Int32)), iv (own_chr x0 (8 : Int32)), iv (own_chr x0 (16 : Int32)), iv (own_chr w630 (0 : Int32)), iv (own_chr w630 (8 : Int32)), iv (own_chr w630 (16 : Int32)), rv s_641, rv s_646, rv b660, iv (((x2.toUInt32 >>> ((5 : Int32) &&& 31).toUInt32).toInt32) &&& (3 : Int32)), .unset, .unset] [(.int (0 : Int32))])) (fun t k => st709.trans k) ?_
        refine own_go (T' := T709) (g' := (mkF m 162 #[iv x0, iv x1, iv x2, iv la, iv lb, iv w630, iv (own_chr x0 (0 : Int32)), iv (own_chr x0 (8 : Int32)), iv (own_chr x0 (16 : Int32)), iv (own_chr w630 (0 : Int32)), iv (own_chr w630 (8 : Int32)), iv (own_chr w630 (16 : Int32)), rv s_641, rv s_646, rv b660, iv (((x2.toUInt32 >>> ((5 : Int32) &&& 31).toUInt32).toInt32) &&& (3 : Int32)), .unset, .unset] [])) (fun t k => XS.ifNo X709.here hx rfl (hb hby at_159) rfl ((if0 _ _).trans (teq (by decide : ((0 : Int32) = (0 : Int32)))).2) k) ?_
        refine own_go (T' := T709) (g' := (mkF m 163 #[iv x0, iv x1, iv x2, iv la, iv lb, iv w630, iv (own_chr x0 (0 : Int32)), iv (own_chr x0 (8 : Int32)), iv (own_chr x0 (16 : Int32)), iv (own_chr w630 (0 : Int32)), iv (own_chr w630 (8 : Int32)), iv (own_chr w630 (16 : Int32)), rv s_641, rv s_646, rv b660, iv (((x2.toUInt32 >>> ((5 : Int32) &&& 31).toUInt32).toInt32) &&& (3 : Int32)), .unset, .unset] [(.int (1 : Int32))])) (fun t k => XS.iconst X709.here hx rfl (hb hby at_162) k) ?_
        refine own_go (T' := T709) (g' := (mkF m 167 #[iv x0, iv x1, iv x2, iv la, iv lb, iv w630, iv (own_chr x0 (0 : Int32)), iv (own_chr x0 (8 : Int32)), iv (own_chr x0 (16 : Int32)), iv (own_chr w630 (0 : Int32)), iv (own_chr w630 (8 : Int32)), iv (own_chr w630 (16 : Int32)), rv s_641, rv s_646, rv b660, iv (((x2.toUInt32 >>> ((5 : Int32) &&& 31).toUInt32).toInt32) &&& (3 : Int32)), .unset, .unset] [(.int (1 : Int32))])) (fun t k => XS.goto X709.here hx rfl (pc0 := 163) (pc' := 167) rfl (hb hby at_163) (by decide) (by decide) k) ?_
        exact own_retW X709 hS679 (by rw [E709q]; exact (Nat.le_refl _)) hlk hx Bd.returns rfl (Or.inl ⟨rfl, Or.inr (Or.inl rfl), _, rfl⟩) (hb hby at_167) (by first | exact ⟨rfl, N709⟩ | (rw [Fr] at *; exact ⟨rfl, by simpa using N709⟩)) (by decide) (by decide)
      · refine own_go (T' := T679) (g' := (mkF m 168 #[iv x0, iv x1, iv x2, iv la, iv lb, iv w630, iv (own_chr x0 (0 : Int32)), iv (own_chr x0 (8 : Int32)), iv (own_chr x0 (16 : Int32)), iv (own_chr w630 (0 : Int32)), iv (own_chr w630 (8 : Int32)), iv (own_chr w630 (16 : Int32)), rv s_641, rv s_646, rv b660, iv (((x2.toUInt32 >>> ((5 : Int32) &&& 31).toUInt32).toInt32) &&& (3 : Int32)), .unset, .unset] [])) (fun t k => XS.icmpYes X679.here hx rfl (pc0 := 149) (pc' := 168) rfl (hb hby at_149) rfl (feq hc708).2 (by decide) (by decide) k) ?_
        refine own_go (T' := T679) (g' := (mkF m 170 #[iv x0, iv x1, iv x2, iv la, iv lb, iv w630, iv (own_chr x0 (0 : Int32)), iv (own_chr x0 (8 : Int32)), iv (own_chr x0 (16 : Int32)), iv (own_chr w630 (0 : Int32)), iv (own_chr w630 (8 : Int32)), iv (own_chr w630 (16 : Int32)), rv s_641, rv s_646, rv b660, iv (((x2.toUInt32 >>> ((5 : Int32) &&& 31).toUInt32).toInt32) &&& (3 : Int32)), .unset, .unset] [(.int (((x2.toUInt32 >>> ((5 : Int32) &&& 31).toUInt32).toInt32) &&& (3 : Int32)))])) (fun t k => XS.iload X679.here hx rfl (hb hby at_168) rfl k) ?_
        refine own_go (T' := T679) (g' := (mkF m 171 #[iv x0, iv x1, iv x2, iv la, iv lb, iv w630, iv (own_chr x0 (0 : Int32)), iv (own_chr x0 (8 : Int32)), iv (own_chr x0 (16 : Int32)), iv (own_chr w630 (0 : Int32)), iv (own_chr w630 (8 : Int32)), iv (own_chr w630 (16 : Int32)), rv s_641, rv s_646, rv b660, iv (((x2.toUInt32 >>> ((5 : Int32) &&& 31).toUInt32).toInt32) &&& (3 : Int32)), .unset, .unset] [(.int (3 : Int32)), (.int (((x2.toUInt32 >>> ((5 : Int32) &&& 31).toUInt32).toInt32) &&& (3 : Int32)))])) (fun t k => XS.iconst X679.here hx rfl (hb hby at_170) k) ?_
        by_cases hc710 : (((x2.toUInt32 >>> ((5 : Int32) &&& 31).toUInt32).toInt32) &&& (3 : Int32)) = (3 : Int32)
        · refine own_go (T' := T679) (g' := (mkF m 174 #[iv x0, iv x1, iv x2, iv la, iv lb, iv w630, iv (own_chr x0 (0 : Int32)), iv (own_chr x0 (8 : Int32)), iv (own_chr x0 (16 : Int32)), iv (own_chr w630 (0 : Int32)), iv (own_chr w630 (8 : Int32)), iv (own_chr w630 (16 : Int32)), rv s_641, rv s_646, rv b660, iv (((x2.toUInt32 >>> ((5 : Int32) &&& 31).toUInt32).toInt32) &&& (3 : Int32)), .unset, .unset] [])) (fun t k => XS.icmpNo X679.here hx rfl (hb hby at_171) rfl (teq hc710).2 k) ?_
          refine own_go (T' := T679) (g' := (mkF m 176 #[iv x0, iv x1, iv x2, iv la, iv lb, iv w630, iv (own_chr x0 (0 : Int32)), iv (own_chr x0 (8 : Int32)), iv (own_chr x0 (16 : Int32)), iv (own_chr w630 (0 : Int32)), iv (own_chr w630 (8 : Int32)), iv (own_chr w630 (16 : Int32)), rv s_641, rv s_646, rv b660, iv (((x2.toUInt32 >>> ((5 : Int32) &&& 31).toUInt32).toInt32) &&& (3 : Int32)), .unset, .unset] [(.ref b660)])) (fun t k => XS.aload X679.here hx rfl (hb hby at_174) rfl rfl k) ?_
          refine own_go (T' := T679) (g' := (mkF m 178 #[iv x0, iv x1, iv x2, iv la, iv lb, iv w630, iv (own_chr x0 (0 : Int32)), iv (own_chr x0 (8 : Int32)), iv (own_chr x0 (16 : Int32)), iv (own_chr w630 (0 : Int32)), iv (own_chr w630 (8 : Int32)), iv (own_chr w630 (16 : Int32)), rv s_641, rv s_646, rv b660, iv (((x2.toUInt32 >>> ((5 : Int32) &&& 31).toUInt32).toInt32) &&& (3 : Int32)), .unset, .unset] [(.ref b660), (.ref b660)])) (fun t k => XS.aload X679.here hx rfl (hb hby at_176) rfl rfl k) ?_
          obtain ⟨cq711, kq711, q711a, q711b, q711c⟩ := isOf hZ rfl e_679
          obtain ⟨_, _, ⟨T711, L711, k711, n711⟩, -, X711, ⟨Lc711, hQ711, l711, y711, z711⟩, st711⟩ := X679.virtualBack hx (y := (⟨"com/example/events_in_order/eventsinorder/model/Topic", "equals", "(Ljava/lang/Object;)Z"⟩ : MethodName)) (z := (⟨"com/example/events_in_order/eventsinorder/model/Topic", "equals", "(Ljava/lang/Object;)Z"⟩ : MethodName)) hown (mvT hZ (hw _ (List.mem_of_getElem? (i := 125) rfl))) (mvT hZ (hw _ (List.mem_of_getElem? (i := 126) rfl))) (notFace_of_selects (args := #[]) (mvT hZ (hw _ (List.mem_of_getElem? (i := 128) rfl)))) (mvT hZ (hw _ (List.mem_of_getElem? (i := 128) rfl))) (mvT hZ (hw _ (List.mem_of_getElem? (i := 127) rfl))) (by decide) (backOf (W := 0) (own_rtq l Z a0 hw [] b660 s_641 T679.heap n0 hz679 e_679 f_679 c684) hZ (hw _ (List.mem_of_getElem? (i := 129) rfl)) (hw _ (List.mem_of_getElem? (i := 40) rfl)) (by decide) (by decide)) q711a q711c (g := (mkF m 178 #[iv x0, iv x1, iv x2, iv la, iv lb, iv w630, iv (own_chr x0 (0 : Int32)), iv (own_chr x0 (8 : Int32)), iv (own_chr x0 (16 : Int32)), iv (own_chr w630 (0 : Int32)), iv (own_chr w630 (8 : Int32)), iv (own_chr w630 (16 : Int32)), rv s_641, rv s_646, rv b660, iv (((x2.toUInt32 >>> ((5 : Int32) &&& 31).toUInt32).toInt32) &&& (3 : Int32)), .unset, .unset] [(.ref b660), (.ref b660)])) rfl (by rw [hml]; rfl) (Steps.refl _) (argsL := [(.ref b660)]) (rest := []) (lenOf own_pd19 rfl) rfl (by show 2 * 0 + _ ≤ _; exact Nat.le_of_eq rfl) (hb hby at_178) (fun _ _ => ⟨rfl, rfl, (by decide : 10 + 0 ≤ _), (by decide : 45 + 0 ≤ _)⟩)
          dsimp only [Pt.U, Pt.locs, Pt.cells, Pt.slots] at X711 l711 y711 z711 st711 hQ711
          subst l711 y711 z711
          obtain ⟨rfl, rfl, e711⟩ := hQ711
          have E711q : T711.heap = T679.heap := e711
          have N711 := Fr.app N679 (Fr.nil n0)
          refine own_go (T' := T711) (g' := (mkF m 181 #[iv x0, iv x1, iv x2, iv la, iv lb, iv w630, iv (own_chr x0 (0 : Int32)), iv (own_chr x0 (8 : Int32)), iv (own_chr x0 (16 : Int32)), iv (own_chr w630 (0 : Int32)), iv (own_chr w630 (8 : Int32)), iv (own_chr w630 (16 : Int32)), rv s_641, rv s_646, rv b660, iv (((x2.toUInt32 >>> ((5 : Int32) &&& 31).toUInt32).toInt32) &&& (3 : Int32)), .unset, .unset] [(.int (1 : Int32))])) (fun t k => st711.trans k) ?_
          exact own_retW X711 hS679 (by rw [E711q]; exact (Nat.le_refl _)) hlk hx Bd.returns rfl (Or.inl ⟨rfl, Or.inr (Or.inl rfl), _, rfl⟩) (hb hby at_181) (by first | exact ⟨rfl, N711⟩ | (rw [Fr] at *; exact ⟨rfl, by simpa using N711⟩)) (by decide) (by decide)
        · refine own_go (T' := T679) (g' := (mkF m 182 #[iv x0, iv x1, iv x2, iv la, iv lb, iv w630, iv (own_chr x0 (0 : Int32)), iv (own_chr x0 (8 : Int32)), iv (own_chr x0 (16 : Int32)), iv (own_chr w630 (0 : Int32)), iv (own_chr w630 (8 : Int32)), iv (own_chr w630 (16 : Int32)), rv s_641, rv s_646, rv b660, iv (((x2.toUInt32 >>> ((5 : Int32) &&& 31).toUInt32).toInt32) &&& (3 : Int32)), .unset, .unset] [])) (fun t k => XS.icmpYes X679.here hx rfl (pc0 := 171) (pc' := 182) rfl (hb hby at_171) rfl (feq hc710).2 (by decide) (by decide) k) ?_
          obtain ⟨T712, h712, X712, e712, E712, A712, D712, -, st712⟩ := newO X679 hx hZ hown (hw _ (List.mem_of_getElem? (i := 38) rfl)) (hw _ (List.mem_of_getElem? (i := 39) rfl)) (hw _ (List.mem_of_getElem? (i := 40) rfl)) rfl (g := (mkF m 182 #[iv x0, iv x1, iv x2, iv la, iv lb, iv w630, iv (own_chr x0 (0 : Int32)), iv (own_chr x0 (8 : Int32)), iv (own_chr x0 (16 : Int32)), iv (own_chr w630 (0 : Int32)), iv (own_chr w630 (8 : Int32)), iv (own_chr w630 (16 : Int32)), rv s_641, rv s_646, rv b660, iv (((x2.toUInt32 >>> ((5 : Int32) &&& 31).toUInt32).toInt32) &&& (3 : Int32)), .unset, .unset] [])) rfl (hb hby at_182) (by decide) (by decide)
          obtain ⟨b712, g712⟩ : ∃ z, z = T679.heap.size := ⟨_, rfl⟩
          rw [← g712] at A712 D712 st712
          have gn712 : n0 ≤ b712 := Nat.le_trans hz679 (Nat.le_of_eq g712.symm)
          have hz712 : n0 ≤ h712.size := Nat.le_trans hz679 E712.1
          have hkE712 : T679.heap.size ≤ h712.size := Nat.le_trans (Nat.le_refl _) E712.1
          have c713 := c680.ext E712
          have c714 := c681.ext E712
          have c715 := c682.ext E712
          have c716 := c683.ext E712
          have c717 := c684.ext E712
          have ne718 : s_641 ≠ b712 := Nat.ne_of_lt (Nat.lt_of_lt_of_le c684.lt (Nat.le_of_eq g712.symm))
          have c719 := c685.ext E712
          have c720 := c686.ext E712
          have c721 := c687.ext E712
          have ne722 : b_641 ≠ b712 := Nat.ne_of_lt (Nat.lt_of_lt_of_le c687.lt (Nat.le_of_eq g712.symm))
          have c723 := c688.ext E712
          have c724 := c693.ext E712
          have ne725 : s_646 ≠ b712 := Nat.ne_of_lt (Nat.lt_of_lt_of_le c693.lt (Nat.le_of_eq g712.symm))
          have c726 := c694.ext E712
          have c727 := c695.ext E712
          have c728 := c696.ext E712
          have ne729 : b_646 ≠ b712 := Nat.ne_of_lt (Nat.lt_of_lt_of_le c696.lt (Nat.le_of_eq g712.symm))
          have c730 := c697.ext E712
          have c731 := e_679.ext E712
          have ne732 : b660 ≠ b712 := Nat.ne_of_lt (Nat.lt_of_lt_of_le e_679.lt (Nat.le_of_eq g712.symm))
          have c733 := f_679.ext E712
          have F712_name : Fld Z h712 b712 "com/example/events_in_order/eventsinorder/model/Topic" "name" "Ljava/lang/String;" .null := D712 (Or.inr (hw _ (List.mem_of_getElem? (i := 122) rfl))) (ty := (.object "java/lang/String")) (by decide)
          have F712_encodedName : Fld Z h712 b712 "com/example/events_in_order/eventsinorder/model/Topic" "encodedName" "[B" .null := D712 (Or.inr (hw _ (List.mem_of_getElem? (i := 124) rfl))) (ty := (.array .byte)) (by decide)
          refine own_go (T' := T712) (g' := (mkF m 185 #[iv x0, iv x1, iv x2, iv la, iv lb, iv w630, iv (own_chr x0 (0 : Int32)), iv (own_chr x0 (8 : Int32)), iv (own_chr x0 (16 : Int32)), iv (own_chr w630 (0 : Int32)), iv (own_chr w630 (8 : Int32)), iv (own_chr w630 (16 : Int32)), rv s_641, rv s_646, rv b660, iv (((x2.toUInt32 >>> ((5 : Int32) &&& 31).toUInt32).toInt32) &&& (3 : Int32)), .unset, .unset] [(.ref b712)])) (st712) ?_
          refine own_go (T' := T712) (g' := (mkF m 186 #[iv x0, iv x1, iv x2, iv la, iv lb, iv w630, iv (own_chr x0 (0 : Int32)), iv (own_chr x0 (8 : Int32)), iv (own_chr x0 (16 : Int32)), iv (own_chr w630 (0 : Int32)), iv (own_chr w630 (8 : Int32)), iv (own_chr w630 (16 : Int32)), rv s_641, rv s_646, rv b660, iv (((x2.toUInt32 >>> ((5 : Int32) &&& 31).toUInt32).toInt32) &&& (3 : Int32)), .unset, .unset] [(.ref b712), (.ref b712)])) (fun t k => XS.dup X712.here hx rfl (hb hby at_185) rfl rfl k) ?_
          refine own_go (T' := T712) (g' := (mkF m 188 #[iv x0, iv x1, iv x2, iv la, iv lb, iv w630, iv (own_chr x0 (0 : Int32)), iv (own_chr x0 (8 : Int32)), iv (own_chr x0 (16 : Int32)), iv (own_chr w630 (0 : Int32)), iv (own_chr w630 (8 : Int32)), iv (own_chr w630 (16 : Int32)), rv s_641, rv s_646, rv b660, iv (((x2.toUInt32 >>> ((5 : Int32) &&& 31).toUInt32).toInt32) &&& (3 : Int32)), .unset, .unset] [(.ref s_646), (.ref b712), (.ref b712)])) (fun t k => XS.aload X712.here hx rfl (hb hby at_186) rfl rfl k) ?_
          obtain ⟨_, _, ⟨T734, L734, k734, n734⟩, -, X734q, hS734q, hle734, ⟨Lc734, hQ734, l734, y734, z734⟩, st734⟩ := X712.specialBackS hx (y := (⟨"com/example/events_in_order/eventsinorder/model/Topic", "<init>", "(Ljava/lang/String;)V"⟩ : MethodName)) rfl hown (mvT hZ (hw _ (List.mem_of_getElem? (i := 41) rfl))) (mvT hZ (hw _ (List.mem_of_getElem? (i := 42) rfl))) (mvT hZ (hw _ (List.mem_of_getElem? (i := 43) rfl))) (by decide) (backOfS (W := 1) (own_rti l Z a0 hw [] b712 s_646 b_646 u8 k_646 (own_ln lb) cp fm (own_nm lb (own_chr w630 (0 : Int32)) (own_chr w630 (8 : Int32)) (own_chr w630 (16 : Int32))) h712 n0 hz712 A712 gn712 F712_name F712_encodedName c724 c726 c727 c728 c730 (own_nm_ok (own_chr_C _ _) (own_chr_C _ _) (own_chr_C _ _)) ne725 ne729 c713 hcp c714 hfm c715 c716) hZ (hw _ (List.mem_of_getElem? (i := 43) rfl)) (hw _ (List.mem_of_getElem? (i := 40) rfl)) (by decide) (by decide)) (g := (mkF m 188 #[iv x0, iv x1, iv x2, iv la, iv lb, iv w630, iv (own_chr x0 (0 : Int32)), iv (own_chr x0 (8 : Int32)), iv (own_chr x0 (16 : Int32)), iv (own_chr w630 (0 : Int32)), iv (own_chr w630 (8 : Int32)), iv (own_chr w630 (16 : Int32)), rv s_641, rv s_646, rv b660, iv (((x2.toUInt32 >>> ((5 : Int32) &&& 31).toUInt32).toInt32) &&& (3 : Int32)), .unset, .unset] [(.ref s_646), (.ref b712), (.ref b712)])) rfl (by rw [hml]; rfl) (Steps.refl _) (a := b712) (argsL := [(.ref s_646)]) (rest := [(.ref b712)]) (lenOf own_pd22 rfl) rfl (by show 2 * 0 + _ ≤ _; exact Nat.le_of_eq rfl) (hb hby at_188) (fun _ _ => ⟨rfl, e712, (by decide : 11 + 3 ≤ _), (by decide : 47 + 23 ≤ _)⟩)
          dsimp only [Pt.U, Pt.locs, Pt.cells, Pt.slots] at X734q hS734q hle734 l734 y734 z734 st734 hQ734
          subst l734 y734 z734
          obtain ⟨X734, hS734, hZ, hown⟩ := rebS hS679 (by rw [e712]; exact hkE712) X734q hS734q hle734 hZ hown
          obtain ⟨rfl, N734q, K_734, e_734, f_734⟩ := hQ734
          have N734 := Fr.app N679 N734q
          have c735 := own_sta_keep c713 K_734 (own_nsS (own_nse A712) own_ns0)
          have c736 := own_sta_keep c714 K_734 (own_nsS (own_nse A712) own_ns0)
          have c737 := own_sta_keep c715 K_734 (own_nsS (own_nse A712) own_ns0)
          have c738 := own_sta_keep c716 K_734 (own_nsS (own_nse A712) own_ns0)
          have c739 := c717.keep K_734
          have c740 := c719.keep K_734 (ninS ne718 nin0)
          have c741 := c720.keep K_734 (ninS ne718 nin0)
          have c742 := c721.keep K_734 (ninS ne722 nin0)
          have c743 := c723.keep K_734
          have c748 := c724.keep K_734
          have c749 := c726.keep K_734 (ninS ne725 nin0)
          have c750 := c727.keep K_734 (ninS ne725 nin0)
          have c751 := c728.keep K_734 (ninS ne729 nin0)
          have c752 := c730.keep K_734
          have c758 := c731.keep K_734
          have c759 := c733.keep K_734 (ninS ne732 nin0)
          have c766 := A712.keep K_734
          have hz734 : n0 ≤ T734.heap.size := Nat.le_trans hz712 K_734.1
          refine own_go (T' := T734) (g' := (mkF m 191 #[iv x0, iv x1, iv x2, iv la, iv lb, iv w630, iv (own_chr x0 (0 : Int32)), iv (own_chr x0 (8 : Int32)), iv (own_chr x0 (16 : Int32)), iv (own_chr w630 (0 : Int32)), iv (own_chr w630 (8 : Int32)), iv (own_chr w630 (16 : Int32)), rv s_641, rv s_646, rv b660, iv (((x2.toUInt32 >>> ((5 : Int32) &&& 31).toUInt32).toInt32) &&& (3 : Int32)), .unset, .unset] [(.ref b712)])) (fun t k => st734.trans k) ?_
          refine own_go (T' := T734) (g' := (mkF m 193 #[iv x0, iv x1, iv x2, iv la, iv lb, iv w630, iv (own_chr x0 (0 : Int32)), iv (own_chr x0 (8 : Int32)), iv (own_chr x0 (16 : Int32)), iv (own_chr w630 (0 : Int32)), iv (own_chr w630 (8 : Int32)), iv (own_chr w630 (16 : Int32)), rv s_641, rv s_646, rv b660, iv (((x2.toUInt32 >>> ((5 : Int32) &&& 31).toUInt32).toInt32) &&& (3 : Int32)), rv b712, .unset] [])) (fun t k => XS.astore X734.here hx rfl (hb hby at_191) rfl rfl (l' := #[iv x0, iv x1, iv x2, iv la, iv lb, iv w630, iv (own_chr x0 (0 : Int32)), iv (own_chr x0 (8 : Int32)), iv (own_chr x0 (16 : Int32)), iv (own_chr w630 (0 : Int32)), iv (own_chr w630 (8 : Int32)), iv (own_chr w630 (16 : Int32)), rv s_641, rv s_646, rv b660, iv (((x2.toUInt32 >>> ((5 : Int32) &&& 31).toUInt32).toInt32) &&& (3 : Int32)), rv b712, .unset]) rfl k) ?_
          refine own_go (T' := T734) (g' := (mkF m 194 #[iv x0, iv x1, iv x2, iv la, iv lb, iv w630, iv (own_chr x0 (0 : Int32)), iv (own_chr x0 (8 : Int32)), iv (own_chr x0 (16 : Int32)), iv (own_chr w630 (0 : Int32)), iv (own_chr w630 (8 : Int32)), iv (own_chr w630 (16 : Int32)), rv s_641, rv s_646, rv b660, iv (((x2.toUInt32 >>> ((5 : Int32) &&& 31).toUInt32).toInt32) &&& (3 : Int32)), rv b712, .unset] [(.int la)])) (fun t k => XS.iloadN X734.here hx rfl (hb hby at_193) rfl k) ?_
          refine own_go (T' := T734) (g' := (mkF m 196 #[iv x0, iv x1, iv x2, iv la, iv lb, iv w630, iv (own_chr x0 (0 : Int32)), iv (own_chr x0 (8 : Int32)), iv (own_chr x0 (16 : Int32)), iv (own_chr w630 (0 : Int32)), iv (own_chr w630 (8 : Int32)), iv (own_chr w630 (16 : Int32)), rv s_641, rv s_646, rv b660, iv (((x2.toUInt32 >>> ((5 : Int32) &&& 31).toUInt32).toInt32) &&& (3 : Int32)), rv b712, .unset] [(.int lb), (.int la)])) (fun t k => XS.iload X734.here hx rfl (hb hby at_194) rfl k) ?_
          by_cases hc769 : la = lb
          · refine own_go (T' := T734) (g' := (mkF m 199 #[iv x0, iv x1, iv x2, iv la, iv lb, iv w630, iv (own_chr x0 (0 : Int32)), iv (own_chr x0 (8 : Int32)), iv (own_chr x0 (16 : Int32)), iv (own_chr w630 (0 : Int32)), iv (own_chr w630 (8 : Int32)), iv (own_chr w630 (16 : Int32)), rv s_641, rv s_646, rv b660, iv (((x2.toUInt32 >>> ((5 : Int32) &&& 31).toUInt32).toInt32) &&& (3 : Int32)), rv b712, .unset] [])) (fun t k => XS.icmpNo X734.here hx rfl (hb hby at_196) rfl (teq hc769).2 k) ?_
            refine own_go (T' := T734) (g' := (mkF m 201 #[iv x0, iv x1, iv x2, iv la, iv lb, iv w630, iv (own_chr x0 (0 : Int32)), iv (own_chr x0 (8 : Int32)), iv (own_chr x0 (16 : Int32)), iv (own_chr w630 (0 : Int32)), iv (own_chr w630 (8 : Int32)), iv (own_chr w630 (16 : Int32)), rv s_641, rv s_646, rv b660, iv (((x2.toUInt32 >>> ((5 : Int32) &&& 31).toUInt32).toInt32) &&& (3 : Int32)), rv b712, .unset] [(.int (own_chr x0 (0 : Int32)))])) (fun t k => XS.iload X734.here hx rfl (hb hby at_199) rfl k) ?_
            refine own_go (T' := T734) (g' := (mkF m 203 #[iv x0, iv x1, iv x2, iv la, iv lb, iv w630, iv (own_chr x0 (0 : Int32)), iv (own_chr x0 (8 : Int32)), iv (own_chr x0 (16 : Int32)), iv (own_chr w630 (0 : Int32)), iv (own_chr w630 (8 : Int32)), iv (own_chr w630 (16 : Int32)), rv s_641, rv s_646, rv b660, iv (((x2.toUInt32 >>> ((5 : Int32) &&& 31).toUInt32).toInt32) &&& (3 : Int32)), rv b712, .unset] [(.int (own_chr w630 (0 : Int32))), (.int (own_chr x0 (0 : Int32)))])) (fun t k => XS.iload X734.here hx rfl (hb hby at_201) rfl k) ?_
            by_cases hc770 : (own_chr x0 (0 : Int32)) = (own_chr w630 (0 : Int32))
            · refine own_go (T' := T734) (g' := (mkF m 206 #[iv x0, iv x1, iv x2, iv la, iv lb, iv w630, iv (own_chr x0 (0 : Int32)), iv (own_chr x0 (8 : Int32)), iv (own_chr x0 (16 : Int32)), iv (own_chr w630 (0 : Int32)), iv (own_chr w630 (8 : Int32)), iv (own_chr w630 (16 : Int32)), rv s_641, rv s_646, rv b660, iv (((x2.toUInt32 >>> ((5 : Int32) &&& 31).toUInt32).toInt32) &&& (3 : Int32)), rv b712, .unset] [])) (fun t k => XS.icmpNo X734.here hx rfl (hb hby at_203) rfl (teq hc770).2 k) ?_
              refine own_go (T' := T734) (g' := (mkF m 207 #[iv x0, iv x1, iv x2, iv la, iv lb, iv w630, iv (own_chr x0 (0 : Int32)), iv (own_chr x0 (8 : Int32)), iv (own_chr x0 (16 : Int32)), iv (own_chr w630 (0 : Int32)), iv (own_chr w630 (8 : Int32)), iv (own_chr w630 (16 : Int32)), rv s_641, rv s_646, rv b660, iv (((x2.toUInt32 >>> ((5 : Int32) &&& 31).toUInt32).toInt32) &&& (3 : Int32)), rv b712, .unset] [(.int la)])) (fun t k => XS.iloadN X734.here hx rfl (hb hby at_206) rfl k) ?_
              refine own_go (T' := T734) (g' := (mkF m 208 #[iv x0, iv x1, iv x2, iv la, iv lb, iv w630, iv (own_chr x0 (0 : Int32)), iv (own_chr x0 (8 : Int32)), iv (own_chr x0 (16 : Int32)), iv (own_chr w630 (0 : Int32)), iv (own_chr w630 (8 : Int32)), iv (own_chr w630 (16 : Int32)), rv s_641, rv s_646, rv b660, iv (((x2.toUInt32 >>> ((5 : Int32) &&& 31).toUInt32).toInt32) &&& (3 : Int32)), rv b712, .unset] [(.int (2 : Int32)), (.int la)])) (fun t k => XS.iconst X734.here hx rfl (hb hby at_207) k) ?_
              by_cases hc771 : la < (2 : Int32)
              · refine own_go (T' := T734) (g' := (mkF m 218 #[iv x0, iv x1, iv x2, iv la, iv lb, iv w630, iv (own_chr x0 (0 : Int32)), iv (own_chr x0 (8 : Int32)), iv (own_chr x0 (16 : Int32)), iv (own_chr w630 (0 : Int32)), iv (own_chr w630 (8 : Int32)), iv (own_chr w630 (16 : Int32)), rv s_641, rv s_646, rv b660, iv (((x2.toUInt32 >>> ((5 : Int32) &&& 31).toUInt32).toInt32) &&& (3 : Int32)), rv b712, .unset] [])) (fun t k => XS.icmpYes X734.here hx rfl (pc0 := 208) (pc' := 218) rfl (hb hby at_208) rfl (tlt hc771).1 (by decide) (by decide) k) ?_
                refine own_go (T' := T734) (g' := (mkF m 219 #[iv x0, iv x1, iv x2, iv la, iv lb, iv w630, iv (own_chr x0 (0 : Int32)), iv (own_chr x0 (8 : Int32)), iv (own_chr x0 (16 : Int32)), iv (own_chr w630 (0 : Int32)), iv (own_chr w630 (8 : Int32)), iv (own_chr w630 (16 : Int32)), rv s_641, rv s_646, rv b660, iv (((x2.toUInt32 >>> ((5 : Int32) &&& 31).toUInt32).toInt32) &&& (3 : Int32)), rv b712, .unset] [(.int la)])) (fun t k => XS.iloadN X734.here hx rfl (hb hby at_218) rfl k) ?_
                refine own_go (T' := T734) (g' := (mkF m 220 #[iv x0, iv x1, iv x2, iv la, iv lb, iv w630, iv (own_chr x0 (0 : Int32)), iv (own_chr x0 (8 : Int32)), iv (own_chr x0 (16 : Int32)), iv (own_chr w630 (0 : Int32)), iv (own_chr w630 (8 : Int32)), iv (own_chr w630 (16 : Int32)), rv s_641, rv s_646, rv b660, iv (((x2.toUInt32 >>> ((5 : Int32) &&& 31).toUInt32).toInt32) &&& (3 : Int32)), rv b712, .unset] [(.int (3 : Int32)), (.int la)])) (fun t k => XS.iconst X734.here hx rfl (hb hby at_219) k) ?_
                by_cases hc772 : la < (3 : Int32)
                · refine own_go (T' := T734) (g' := (mkF m 230 #[iv x0, iv x1, iv x2, iv la, iv lb, iv w630, iv (own_chr x0 (0 : Int32)), iv (own_chr x0 (8 : Int32)), iv (own_chr x0 (16 : Int32)), iv (own_chr w630 (0 : Int32)), iv (own_chr w630 (8 : Int32)), iv (own_chr w630 (16 : Int32)), rv s_641, rv s_646, rv b660, iv (((x2.toUInt32 >>> ((5 : Int32) &&& 31).toUInt32).toInt32) &&& (3 : Int32)), rv b712, .unset] [])) (fun t k => XS.icmpYes X734.here hx rfl (pc0 := 220) (pc' := 230) rfl (hb hby at_220) rfl (tlt hc772).1 (by decide) (by decide) k) ?_
                  refine own_go (T' := T734) (g' := (mkF m 231 #[iv x0, iv x1, iv x2, iv la, iv lb, iv w630, iv (own_chr x0 (0 : Int32)), iv (own_chr x0 (8 : Int32)), iv (own_chr x0 (16 : Int32)), iv (own_chr w630 (0 : Int32)), iv (own_chr w630 (8 : Int32)), iv (own_chr w630 (16 : Int32)), rv s_641, rv s_646, rv b660, iv (((x2.toUInt32 >>> ((5 : Int32) &&& 31).toUInt32).toInt32) &&& (3 : Int32)), rv b712, .unset] [(.int (1 : Int32))])) (fun t k => XS.iconst X734.here hx rfl (hb hby at_230) k) ?_
                  refine own_go (T' := T734) (g' := (mkF m 235 #[iv x0, iv x1, iv x2, iv la, iv lb, iv w630, iv (own_chr x0 (0 : Int32)), iv (own_chr x0 (8 : Int32)), iv (own_chr x0 (16 : Int32)), iv (own_chr w630 (0 : Int32)), iv (own_chr w630 (8 : Int32)), iv (own_chr w630 (16 : Int32)), rv s_641, rv s_646, rv b660, iv (((x2.toUInt32 >>> ((5 : Int32) &&& 31).toUInt32).toInt32) &&& (3 : Int32)), rv b712, .unset] [(.int (1 : Int32))])) (fun t k => XS.goto X734.here hx rfl (pc0 := 231) (pc' := 235) rfl (hb hby at_231) (by decide) (by decide) k) ?_
                  refine own_go (T' := T734) (g' := (mkF m 237 #[iv x0, iv x1, iv x2, iv la, iv lb, iv w630, iv (own_chr x0 (0 : Int32)), iv (own_chr x0 (8 : Int32)), iv (own_chr x0 (16 : Int32)), iv (own_chr w630 (0 : Int32)), iv (own_chr w630 (8 : Int32)), iv (own_chr w630 (16 : Int32)), rv s_641, rv s_646, rv b660, iv (((x2.toUInt32 >>> ((5 : Int32) &&& 31).toUInt32).toInt32) &&& (3 : Int32)), rv b712, iv (1 : Int32)] [])) (fun t k => XS.istore X734.here hx rfl (hb hby at_235) rfl (l' := #[iv x0, iv x1, iv x2, iv la, iv lb, iv w630, iv (own_chr x0 (0 : Int32)), iv (own_chr x0 (8 : Int32)), iv (own_chr x0 (16 : Int32)), iv (own_chr w630 (0 : Int32)), iv (own_chr w630 (8 : Int32)), iv (own_chr w630 (16 : Int32)), rv s_641, rv s_646, rv b660, iv (((x2.toUInt32 >>> ((5 : Int32) &&& 31).toUInt32).toInt32) &&& (3 : Int32)), rv b712, iv (1 : Int32)]) rfl k) ?_
                  refine own_go (T' := T734) (g' := (mkF m 239 #[iv x0, iv x1, iv x2, iv la, iv lb, iv w630, iv (own_chr x0 (0 : Int32)), iv (own_chr x0 (8 : Int32)), iv (own_chr x0 (16 : Int32)), iv (own_chr w630 (0 : Int32)), iv (own_chr w630 (8 : Int32)), iv (own_chr w630 (16 : Int32)), rv s_641, rv s_646, rv b660, iv (((x2.toUInt32 >>> ((5 : Int32) &&& 31).toUInt32).toInt32) &&& (3 : Int32)), rv b712, iv (1 : Int32)] [(.ref b660)])) (fun t k => XS.aload X734.here hx rfl (hb hby at_237) rfl rfl k) ?_
                  refine own_go (T' := T734) (g' := (mkF m 241 #[iv x0, iv x1, iv x2, iv la, iv lb, iv w630, iv (own_chr x0 (0 : Int32)), iv (own_chr x0 (8 : Int32)), iv (own_chr x0 (16 : Int32)), iv (own_chr w630 (0 : Int32)), iv (own_chr w630 (8 : Int32)), iv (own_chr w630 (16 : Int32)), rv s_641, rv s_646, rv b660, iv (((x2.toUInt32 >>> ((5 : Int32) &&& 31).toUInt32).toInt32) &&& (3 : Int32)), rv b712, iv (1 : Int32)] [(.ref b712), (.ref b660)])) (fun t k => XS.aload X734.here hx rfl (hb hby at_239) rfl rfl k) ?_
                  obtain ⟨cq773, kq773, q773a, q773b, q773c⟩ := isOf hZ rfl c758
                  obtain ⟨_, _, ⟨T773, L773, k773, n773⟩, -, X773, ⟨Lc773, hQ773, l773, y773, z773⟩, st773⟩ := X734.virtualBack hx (y := (⟨"com/example/events_in_order/eventsinorder/model/Topic", "equals", "(Ljava/lang/Object;)Z"⟩ : MethodName)) (z := (⟨"com/example/events_in_order/eventsinorder/model/Topic", "equals", "(Ljava/lang/Object;)Z"⟩ : MethodName)) hown (mvT hZ (hw _ (List.mem_of_getElem? (i := 125) rfl))) (mvT hZ (hw _ (List.mem_of_getElem? (i := 126) rfl))) (notFace_of_selects (args := #[]) (mvT hZ (hw _ (List.mem_of_getElem? (i := 128) rfl)))) (mvT hZ (hw _ (List.mem_of_getElem? (i := 128) rfl))) (mvT hZ (hw _ (List.mem_of_getElem? (i := 127) rfl))) (by decide) (backOf (W := 0) (own_rtt l Z a0 hw [] b660 b712 s_641 s_646 b_641 b_646 k_641 k_646 (own_ln la) (own_ln lb) cp (own_nm la (own_chr x0 (0 : Int32)) (own_chr x0 (8 : Int32)) (own_chr x0 (16 : Int32))) (own_nm lb (own_chr w630 (0 : Int32)) (own_chr w630 (8 : Int32)) (own_chr w630 (16 : Int32))) T734.heap n0 hz734 e_734 c759 f_734 c739 c740 c741 c748 c749 c750 c742 c751 (own_nm_ok (own_chr_C _ _) (own_chr_C _ _) (own_chr_C _ _)) (own_nm_ok (own_chr_C _ _) (own_chr_C _ _) (own_chr_C _ _)) nq647 c735 hcp) hZ (hw _ (List.mem_of_getElem? (i := 129) rfl)) (hw _ (List.mem_of_getElem? (i := 40) rfl)) (by decide) (by decide)) q773a q773c (g := (mkF m 241 #[iv x0, iv x1, iv x2, iv la, iv lb, iv w630, iv (own_chr x0 (0 : Int32)), iv (own_chr x0 (8 : Int32)), iv (own_chr x0 (16 : Int32)), iv (own_chr w630 (0 : Int32)), iv (own_chr w630 (8 : Int32)), iv (own_chr w630 (16 : Int32)), rv s_641, rv s_646, rv b660, iv (((x2.toUInt32 >>> ((5 : Int32) &&& 31).toUInt32).toInt32) &&& (3 : Int32)), rv b712, iv (1 : Int32)] [(.ref b712), (.ref b660)])) rfl (by rw [hml]; rfl) (Steps.refl _) (argsL := [(.ref b712)]) (rest := []) (lenOf own_pd19 rfl) rfl (by show 2 * 0 + _ ≤ _; exact Nat.le_of_eq rfl) (hb hby at_241) (fun _ _ => ⟨rfl, rfl, (by decide : 14 + 0 ≤ _), (by decide : 70 + 0 ≤ _)⟩)
                  dsimp only [Pt.U, Pt.locs, Pt.cells, Pt.slots] at X773 l773 y773 z773 st773 hQ773
                  subst l773 y773 z773
                  obtain ⟨rfl, rfl, e773⟩ := hQ773
                  have E773q : T773.heap = T734.heap := e773
                  have N773 := Fr.app N734 (Fr.nil n0)
                  refine own_go (T' := T773) (g' := (mkF m 244 #[iv x0, iv x1, iv x2, iv la, iv lb, iv w630, iv (own_chr x0 (0 : Int32)), iv (own_chr x0 (8 : Int32)), iv (own_chr x0 (16 : Int32)), iv (own_chr w630 (0 : Int32)), iv (own_chr w630 (8 : Int32)), iv (own_chr w630 (16 : Int32)), rv s_641, rv s_646, rv b660, iv (((x2.toUInt32 >>> ((5 : Int32) &&& 31).toUInt32).toInt32) &&& (3 : Int32)), rv b712, iv (1 : Int32)] [(.int (own_eqv (own_nm la (own_chr x0 (0 : Int32)) (own_chr x0 (8 : Int32)) (own_chr x0 (16 : Int32))) (own_nm lb (own_chr w630 (0 : Int32)) (own_chr w630 (8 : Int32)) (own_chr w630 (16 : Int32)))))])) (fun t k => st773.trans k) ?_
                  refine own_go (T' := T773) (g' := (mkF m 246 #[iv x0, iv x1, iv x2, iv la, iv lb, iv w630, iv (own_chr x0 (0 : Int32)), iv (own_chr x0 (8 : Int32)), iv (own_chr x0 (16 : Int32)), iv (own_chr w630 (0 : Int32)), iv (own_chr w630 (8 : Int32)), iv (own_chr w630 (16 : Int32)), rv s_641, rv s_646, rv b660, iv (((x2.toUInt32 >>> ((5 : Int32) &&& 31).toUInt32).toInt32) &&& (3 : Int32)), rv b712, iv (1 : Int32)] [(.int (1 : Int32)), (.int (own_eqv (own_nm la (own_chr x0 (0 : Int32)) (own_chr x0 (8 : Int32)) (own_chr x0 (16 : Int32))) (own_nm lb (own_chr w630 (0 : Int32)) (own_chr w630 (8 : Int32)) (own_chr w630 (16 : Int32)))))])) (fun t k => XS.iload X773.here hx rfl (hb hby at_244) rfl k) ?_
                  refine own_go (T' := T773) (g' := (mkF m 249 #[iv x0, iv x1, iv x2, iv la, iv lb, iv w630, iv (own_chr x0 (0 : Int32)), iv (own_chr x0 (8 : Int32)), iv (own_chr x0 (16 : Int32)), iv (own_chr w630 (0 : Int32)), iv (own_chr w630 (8 : Int32)), iv (own_chr w630 (16 : Int32)), rv s_641, rv s_646, rv b660, iv (((x2.toUInt32 >>> ((5 : Int32) &&& 31).toUInt32).toInt32) &&& (3 : Int32)), rv b712, iv (1 : Int32)] [])) (fun t k => XS.icmpNo X773.here hx rfl (hb hby at_246) rfl (teq (((own_key hl_la hl_lb _ _ _ _ _ _).trans ((if_pos hc769).trans ((if_pos hc770).trans ((if_pos hc771).trans (if_pos hc772))))) : ((own_eqv (own_nm la (own_chr x0 (0 : Int32)) (own_chr x0 (8 : Int32)) (own_chr x0 (16 : Int32))) (own_nm lb (own_chr w630 (0 : Int32)) (own_chr w630 (8 : Int32)) (own_chr w630 (16 : Int32)))) = (1 : Int32)))).2 k) ?_
                  refine own_go (T' := T773) (g' := (mkF m 251 #[iv x0, iv x1, iv x2, iv la, iv lb, iv w630, iv (own_chr x0 (0 : Int32)), iv (own_chr x0 (8 : Int32)), iv (own_chr x0 (16 : Int32)), iv (own_chr w630 (0 : Int32)), iv (own_chr w630 (8 : Int32)), iv (own_chr w630 (16 : Int32)), rv s_641, rv s_646, rv b660, iv (((x2.toUInt32 >>> ((5 : Int32) &&& 31).toUInt32).toInt32) &&& (3 : Int32)), rv b712, iv (1 : Int32)] [(.ref b712)])) (fun t k => XS.aload X773.here hx rfl (hb hby at_249) rfl rfl k) ?_
                  refine own_go (T' := T773) (g' := (mkF m 253 #[iv x0, iv x1, iv x2, iv la, iv lb, iv w630, iv (own_chr x0 (0 : Int32)), iv (own_chr x0 (8 : Int32)), iv (own_chr x0 (16 : Int32)), iv (own_chr w630 (0 : Int32)), iv (own_chr w630 (8 : Int32)), iv (own_chr w630 (16 : Int32)), rv s_641, rv s_646, rv b660, iv (((x2.toUInt32 >>> ((5 : Int32) &&& 31).toUInt32).toInt32) &&& (3 : Int32)), rv b712, iv (1 : Int32)] [(.ref b660), (.ref b712)])) (fun t k => XS.aload X773.here hx rfl (hb hby at_251) rfl rfl k) ?_
                  obtain ⟨cq774, kq774, q774a, q774b, q774c⟩ := isOf hZ E773q e_734
                  obtain ⟨_, _, ⟨T774, L774, k774, n774⟩, -, X774, ⟨Lc774, hQ774, l774, y774, z774⟩, st774⟩ := X773.virtualBack hx (y := (⟨"com/example/events_in_order/eventsinorder/model/Topic", "equals", "(Ljava/lang/Object;)Z"⟩ : MethodName)) (z := (⟨"com/example/events_in_order/eventsinorder/model/Topic", "equals", "(Ljava/lang/Object;)Z"⟩ : MethodName)) hown (mvT hZ (hw _ (List.mem_of_getElem? (i := 125) rfl))) (mvT hZ (hw _ (List.mem_of_getElem? (i := 126) rfl))) (notFace_of_selects (args := #[]) (mvT hZ (hw _ (List.mem_of_getElem? (i := 128) rfl)))) (mvT hZ (hw _ (List.mem_of_getElem? (i := 128) rfl))) (mvT hZ (hw _ (List.mem_of_getElem? (i := 127) rfl))) (by decide) (backOf (W := 0) (own_rtt l Z a0 hw [] b712 b660 s_646 s_641 b_646 b_641 k_646 k_641 (own_ln lb) (own_ln la) cp (own_nm lb (own_chr w630 (0 : Int32)) (own_chr w630 (8 : Int32)) (own_chr w630 (16 : Int32))) (own_nm la (own_chr x0 (0 : Int32)) (own_chr x0 (8 : Int32)) (own_chr x0 (16 : Int32))) T734.heap n0 hz734 c758 f_734 c759 c748 c749 c750 c739 c740 c741 c751 c742 (own_nm_ok (own_chr_C _ _) (own_chr_C _ _) (own_chr_C _ _)) (own_nm_ok (own_chr_C _ _) (own_chr_C _ _) (own_chr_C _ _)) (Ne.symm nq647) c735 hcp) hZ (hw _ (List.mem_of_getElem? (i := 129) rfl)) (hw _ (List.mem_of_getElem? (i := 40) rfl)) (by decide) (by decide)) q774a q774c (g := (mkF m 253 #[iv x0, iv x1, iv x2, iv la, iv lb, iv w630, iv (own_chr x0 (0 : Int32)), iv (own_chr x0 (8 : Int32)), iv (own_chr x0 (16 : Int32)), iv (own_chr w630 (0 : Int32)), iv (own_chr w630 (8 : Int32)), iv (own_chr w630 (16 : Int32)), rv s_641, rv s_646, rv b660, iv (((x2.toUInt32 >>> ((5 : Int32) &&& 31).toUInt32).toInt32) &&& (3 : Int32)), rv b712, iv (1 : Int32)] [(.ref b660), (.ref b712)])) rfl (by rw [hml]; rfl) (Steps.refl _) (argsL := [(.ref b660)]) (rest := []) (lenOf own_pd19 rfl) rfl (by show 2 * 0 + _ ≤ _; exact Nat.le_of_eq rfl) (hb hby at_253) (fun _ _ => ⟨rfl, E773q, (by decide : 14 + 0 ≤ _), (by decide : 70 + 0 ≤ _)⟩)
                  dsimp only [Pt.U, Pt.locs, Pt.cells, Pt.slots] at X774 l774 y774 z774 st774 hQ774
                  subst l774 y774 z774
                  obtain ⟨rfl, rfl, e774⟩ := hQ774
                  have E774q : T774.heap = T734.heap := e774
                  have N774 := Fr.app N773 (Fr.nil n0)
                  refine own_go (T' := T774) (g' := (mkF m 256 #[iv x0, iv x1, iv x2, iv la, iv lb, iv w630, iv (own_chr x0 (0 : Int32)), iv (own_chr x0 (8 : Int32)), iv (own_chr x0 (16 : Int32)), iv (own_chr w630 (0 : Int32)), iv (own_chr w630 (8 : Int32)), iv (own_chr w630 (16 : Int32)), rv s_641, rv s_646, rv b660, iv (((x2.toUInt32 >>> ((5 : Int32) &&& 31).toUInt32).toInt32) &&& (3 : Int32)), rv b712, iv (1 : Int32)] [(.int (own_eqv (own_nm lb (own_chr w630 (0 : Int32)) (own_chr w630 (8 : Int32)) (own_chr w630 (16 : Int32))) (own_nm la (own_chr x0 (0 : Int32)) (own_chr x0 (8 : Int32)) (own_chr x0 (16 : Int32)))))])) (fun t k => st774.trans k) ?_
                  refine own_go (T' := T774) (g' := (mkF m 258 #[iv x0, iv x1, iv x2, iv la, iv lb, iv w630, iv (own_chr x0 (0 : Int32)), iv (own_chr x0 (8 : Int32)), iv (own_chr x0 (16 : Int32)), iv (own_chr w630 (0 : Int32)), iv (own_chr w630 (8 : Int32)), iv (own_chr w630 (16 : Int32)), rv s_641, rv s_646, rv b660, iv (((x2.toUInt32 >>> ((5 : Int32) &&& 31).toUInt32).toInt32) &&& (3 : Int32)), rv b712, iv (1 : Int32)] [(.int (1 : Int32)), (.int (own_eqv (own_nm lb (own_chr w630 (0 : Int32)) (own_chr w630 (8 : Int32)) (own_chr w630 (16 : Int32))) (own_nm la (own_chr x0 (0 : Int32)) (own_chr x0 (8 : Int32)) (own_chr x0 (16 : Int32)))))])) (fun t k => XS.iload X774.here hx rfl (hb hby at_256) rfl k) ?_
                  refine own_go (T' := T774) (g' := (mkF m 261 #[iv x0, iv x1, iv x2, iv la, iv lb, iv w630, iv (own_chr x0 (0 : Int32)), iv (own_chr x0 (8 : Int32)), iv (own_chr x0 (16 : Int32)), iv (own_chr w630 (0 : Int32)), iv (own_chr w630 (8 : Int32)), iv (own_chr w630 (16 : Int32)), rv s_641, rv s_646, rv b660, iv (((x2.toUInt32 >>> ((5 : Int32) &&& 31).toUInt32).toInt32) &&& (3 : Int32)), rv b712, iv (1 : Int32)] [])) (fun t k => XS.icmpNo X774.here hx rfl (hb hby at_258) rfl (teq ((own_eqv_comm _ _).trans ((own_key hl_la hl_lb _ _ _ _ _ _).trans ((if_pos hc769).trans ((if_pos hc770).trans ((if_pos hc771).trans (if_pos hc772))))) : ((own_eqv (own_nm lb (own_chr w630 (0 : Int32)) (own_chr w630 (8 : Int32)) (own_chr w630 (16 : Int32))) (own_nm la (own_chr x0 (0 : Int32)) (own_chr x0 (8 : Int32)) (own_chr x0 (16 : Int32)))) = (1 : Int32)))).2 k) ?_
                  refine own_go (T' := T774) (g' := (mkF m 262 #[iv x0, iv x1, iv x2, iv la, iv lb, iv w630, iv (own_chr x0 (0 : Int32)), iv (own_chr x0 (8 : Int32)), iv (own_chr x0 (16 : Int32)), iv (own_chr w630 (0 : Int32)), iv (own_chr w630 (8 : Int32)), iv (own_chr w630 (16 : Int32)), rv s_641, rv s_646, rv b660, iv (((x2.toUInt32 >>> ((5 : Int32) &&& 31).toUInt32).toInt32) &&& (3 : Int32)), rv b712, iv (1 : Int32)] [(.int (1 : Int32))])) (fun t k => XS.iconst X774.here hx rfl (hb hby at_261) k) ?_
                  refine own_go (T' := T774) (g' := (mkF m 266 #[iv x0, iv x1, iv x2, iv la, iv lb, iv w630, iv (own_chr x0 (0 : Int32)), iv (own_chr x0 (8 : Int32)), iv (own_chr x0 (16 : Int32)), iv (own_chr w630 (0 : Int32)), iv (own_chr w630 (8 : Int32)), iv (own_chr w630 (16 : Int32)), rv s_641, rv s_646, rv b660, iv (((x2.toUInt32 >>> ((5 : Int32) &&& 31).toUInt32).toInt32) &&& (3 : Int32)), rv b712, iv (1 : Int32)] [(.int (1 : Int32))])) (fun t k => XS.goto X774.here hx rfl (pc0 := 262) (pc' := 266) rfl (hb hby at_262) (by decide) (by decide) k) ?_
                  exact own_retW X774 hS734 (by rw [E774q]; exact (Nat.le_refl _)) hlk hx Bd.returns rfl (Or.inl ⟨rfl, Or.inr (Or.inl rfl), _, rfl⟩) (hb hby at_266) (by first | exact ⟨rfl, N774⟩ | (rw [Fr] at *; exact ⟨rfl, by simpa using N774⟩)) (by decide) (by decide)
                · refine own_go (T' := T734) (g' := (mkF m 223 #[iv x0, iv x1, iv x2, iv la, iv lb, iv w630, iv (own_chr x0 (0 : Int32)), iv (own_chr x0 (8 : Int32)), iv (own_chr x0 (16 : Int32)), iv (own_chr w630 (0 : Int32)), iv (own_chr w630 (8 : Int32)), iv (own_chr w630 (16 : Int32)), rv s_641, rv s_646, rv b660, iv (((x2.toUInt32 >>> ((5 : Int32) &&& 31).toUInt32).toInt32) &&& (3 : Int32)), rv b712, .unset] [])) (fun t k => XS.icmpNo X734.here hx rfl (hb hby at_220) rfl (flt hc772).1 k) ?_
                  refine own_go (T' := T734) (g' := (mkF m 225 #[iv x0, iv x1, iv x2, iv la, iv lb, iv w630, iv (own_chr x0 (0 : Int32)), iv (own_chr x0 (8 : Int32)), iv (own_chr x0 (16 : Int32)), iv (own_chr w630 (0 : Int32)), iv (own_chr w630 (8 : Int32)), iv (own_chr w630 (16 : Int32)), rv s_641, rv s_646, rv b660, iv (((x2.toUInt32 >>> ((5 : Int32) &&& 31).toUInt32).toInt32) &&& (3 : Int32)), rv b712, .unset] [(.int (own_chr x0 (16 : Int32)))])) (fun t k => XS.iload X734.here hx rfl (hb hby at_223) rfl k) ?_
                  refine own_go (T' := T734) (g' := (mkF m 227 #[iv x0, iv x1, iv x2, iv la, iv lb, iv w630, iv (own_chr x0 (0 : Int32)), iv (own_chr x0 (8 : Int32)), iv (own_chr x0 (16 : Int32)), iv (own_chr w630 (0 : Int32)), iv (own_chr w630 (8 : Int32)), iv (own_chr w630 (16 : Int32)), rv s_641, rv s_646, rv b660, iv (((x2.toUInt32 >>> ((5 : Int32) &&& 31).toUInt32).toInt32) &&& (3 : Int32)), rv b712, .unset] [(.int (own_chr w630 (16 : Int32))), (.int (own_chr x0 (16 : Int32)))])) (fun t k => XS.iload X734.here hx rfl (hb hby at_225) rfl k) ?_
                  by_cases hc775 : (own_chr x0 (16 : Int32)) = (own_chr w630 (16 : Int32))
                  · refine own_go (T' := T734) (g' := (mkF m 230 #[iv x0, iv x1, iv x2, iv la, iv lb, iv w630, iv (own_chr x0 (0 : Int32)), iv (own_chr x0 (8 : Int32)), iv (own_chr x0 (16 : Int32)), iv (own_chr w630 (0 : Int32)), iv (own_chr w630 (8 : Int32)), iv (own_chr w630 (16 : Int32)), rv s_641, rv s_646, rv b660, iv (((x2.toUInt32 >>> ((5 : Int32) &&& 31).toUInt32).toInt32) &&& (3 : Int32)), rv b712, .unset] [])) (fun t k => XS.icmpNo X734.here hx rfl (hb hby at_227) rfl (teq hc775).2 k) ?_
                    refine own_go (T' := T734) (g' := (mkF m 231 #[iv x0, iv x1, iv x2, iv la, iv lb, iv w630, iv (own_chr x0 (0 : Int32)), iv (own_chr x0 (8 : Int32)), iv (own_chr x0 (16 : Int32)), iv (own_chr w630 (0 : Int32)), iv (own_chr w630 (8 : Int32)), iv (own_chr w630 (16 : Int32)), rv s_641, rv s_646, rv b660, iv (((x2.toUInt32 >>> ((5 : Int32) &&& 31).toUInt32).toInt32) &&& (3 : Int32)), rv b712, .unset] [(.int (1 : Int32))])) (fun t k => XS.iconst X734.here hx rfl (hb hby at_230) k) ?_
                    refine own_go (T' := T734) (g' := (mkF m 235 #[iv x0, iv x1, iv x2, iv la, iv lb, iv w630, iv (own_chr x0 (0 : Int32)), iv (own_chr x0 (8 : Int32)), iv (own_chr x0 (16 : Int32)), iv (own_chr w630 (0 : Int32)), iv (own_chr w630 (8 : Int32)), iv (own_chr w630 (16 : Int32)), rv s_641, rv s_646, rv b660, iv (((x2.toUInt32 >>> ((5 : Int32) &&& 31).toUInt32).toInt32) &&& (3 : Int32)), rv b712, .unset] [(.int (1 : Int32))])) (fun t k => XS.goto X734.here hx rfl (pc0 := 231) (pc' := 235) rfl (hb hby at_231) (by decide) (by decide) k) ?_
                    refine own_go (T' := T734) (g' := (mkF m 237 #[iv x0, iv x1, iv x2, iv la, iv lb, iv w630, iv (own_chr x0 (0 : Int32)), iv (own_chr x0 (8 : Int32)), iv (own_chr x0 (16 : Int32)), iv (own_chr w630 (0 : Int32)), iv (own_chr w630 (8 : Int32)), iv (own_chr w630 (16 : Int32)), rv s_641, rv s_646, rv b660, iv (((x2.toUInt32 >>> ((5 : Int32) &&& 31).toUInt32).toInt32) &&& (3 : Int32)), rv b712, iv (1 : Int32)] [])) (fun t k => XS.istore X734.here hx rfl (hb hby at_235) rfl (l' := #[iv x0, iv x1, iv x2, iv la, iv lb, iv w630, iv (own_chr x0 (0 : Int32)), iv (own_chr x0 (8 : Int32)), iv (own_chr x0 (16 : Int32)), iv (own_chr w630 (0 : Int32)), iv (own_chr w630 (8 : Int32)), iv (own_chr w630 (16 : Int32)), rv s_641, rv s_646, rv b660, iv (((x2.toUInt32 >>> ((5 : Int32) &&& 31).toUInt32).toInt32) &&& (3 : Int32)), rv b712, iv (1 : Int32)]) rfl k) ?_
                    refine own_go (T' := T734) (g' := (mkF m 239 #[iv x0, iv x1, iv x2, iv la, iv lb, iv w630, iv (own_chr x0 (0 : Int32)), iv (own_chr x0 (8 : Int32)), iv (own_chr x0 (16 : Int32)), iv (own_chr w630 (0 : Int32)), iv (own_chr w630 (8 : Int32)), iv (own_chr w630 (16 : Int32)), rv s_641, rv s_646, rv b660, iv (((x2.toUInt32 >>> ((5 : Int32) &&& 31).toUInt32).toInt32) &&& (3 : Int32)), rv b712, iv (1 : Int32)] [(.ref b660)])) (fun t k => XS.aload X734.here hx rfl (hb hby at_237) rfl rfl k) ?_
                    refine own_go (T' := T734) (g' := (mkF m 241 #[iv x0, iv x1, iv x2, iv la, iv lb, iv w630, iv (own_chr x0 (0 : Int32)), iv (own_chr x0 (8 : Int32)), iv (own_chr x0 (16 : Int32)), iv (own_chr w630 (0 : Int32)), iv (own_chr w630 (8 : Int32)), iv (own_chr w630 (16 : Int32)), rv s_641, rv s_646, rv b660, iv (((x2.toUInt32 >>> ((5 : Int32) &&& 31).toUInt32).toInt32) &&& (3 : Int32)), rv b712, iv (1 : Int32)] [(.ref b712), (.ref b660)])) (fun t k => XS.aload X734.here hx rfl (hb hby at_239) rfl rfl k) ?_
                    obtain ⟨cq776, kq776, q776a, q776b, q776c⟩ := isOf hZ rfl c758
                    obtain ⟨_, _, ⟨T776, L776, k776, n776⟩, -, X776, ⟨Lc776, hQ776, l776, y776, z776⟩, st776⟩ := X734.virtualBack hx (y := (⟨"com/example/events_in_order/eventsinorder/model/Topic", "equals", "(Ljava/lang/Object;)Z"⟩ : MethodName)) (z := (⟨"com/example/events_in_order/eventsinorder/model/Topic", "equals", "(Ljava/lang/Object;)Z"⟩ : MethodName)) hown (mvT hZ (hw _ (List.mem_of_getElem? (i := 125) rfl))) (mvT hZ (hw _ (List.mem_of_getElem? (i := 126) rfl))) (notFace_of_selects (args := #[]) (mvT hZ (hw _ (List.mem_of_getElem? (i := 128) rfl)))) (mvT hZ (hw _ (List.mem_of_getElem? (i := 128) rfl))) (mvT hZ (hw _ (List.mem_of_getElem? (i := 127) rfl))) (by decide) (backOf (W := 0) (own_rtt l Z a0 hw [] b660 b712 s_641 s_646 b_641 b_646 k_641 k_646 (own_ln la) (own_ln lb) cp (own_nm la (own_chr x0 (0 : Int32)) (own_chr x0 (8 : Int32)) (own_chr x0 (16 : Int32))) (own_nm lb (own_chr w630 (0 : Int32)) (own_chr w630 (8 : Int32)) (own_chr w630 (16 : Int32))) T734.heap n0 hz734 e_734 c759 f_734 c739 c740 c741 c748 c749 c750 c742 c751 (own_nm_ok (own_chr_C _ _) (own_chr_C _ _) (own_chr_C _ _)) (own_nm_ok (own_chr_C _ _) (own_chr_C _ _) (own_chr_C _ _)) nq647 c735 hcp) hZ (hw _ (List.mem_of_getElem? (i := 129) rfl)) (hw _ (List.mem_of_getElem? (i := 40) rfl)) (by decide) (by decide)) q776a q776c (g := (mkF m 241 #[iv x0, iv x1, iv x2, iv la, iv lb, iv w630, iv (own_chr x0 (0 : Int32)), iv (own_chr x0 (8 : Int32)), iv (own_chr x0 (16 : Int32)), iv (own_chr w630 (0 : Int32)), iv (own_chr w630 (8 : Int32)), iv (own_chr w630 (16 : Int32)), rv s_641, rv s_646, rv b660, iv (((x2.toUInt32 >>> ((5 : Int32) &&& 31).toUInt32).toInt32) &&& (3 : Int32)), rv b712, iv (1 : Int32)] [(.ref b712), (.ref b660)])) rfl (by rw [hml]; rfl) (Steps.refl _) (argsL := [(.ref b712)]) (rest := []) (lenOf own_pd19 rfl) rfl (by show 2 * 0 + _ ≤ _; exact Nat.le_of_eq rfl) (hb hby at_241) (fun _ _ => ⟨rfl, rfl, (by decide : 14 + 0 ≤ _), (by decide : 70 + 0 ≤ _)⟩)
                    dsimp only [Pt.U, Pt.locs, Pt.cells, Pt.slots] at X776 l776 y776 z776 st776 hQ776
                    subst l776 y776 z776
                    obtain ⟨rfl, rfl, e776⟩ := hQ776
                    have E776q : T776.heap = T734.heap := e776
                    have N776 := Fr.app N734 (Fr.nil n0)
                    refine own_go (T' := T776) (g' := (mkF m 244 #[iv x0, iv x1, iv x2, iv la, iv lb, iv w630, iv (own_chr x0 (0 : Int32)), iv (own_chr x0 (8 : Int32)), iv (own_chr x0 (16 : Int32)), iv (own_chr w630 (0 : Int32)), iv (own_chr w630 (8 : Int32)), iv (own_chr w630 (16 : Int32)), rv s_641, rv s_646, rv b660, iv (((x2.toUInt32 >>> ((5 : Int32) &&& 31).toUInt32).toInt32) &&& (3 : Int32)), rv b712, iv (1 : Int32)] [(.int (own_eqv (own_nm la (own_chr x0 (0 : Int32)) (own_chr x0 (8 : Int32)) (own_chr x0 (16 : Int32))) (own_nm lb (own_chr w630 (0 : Int32)) (own_chr w630 (8 : Int32)) (own_chr w630 (16 : Int32)))))])) (fun t k => st776.trans k) ?_
                    refine own_go (T' := T776) (g' := (mkF m 246 #[iv x0, iv x1, iv x2, iv la, iv lb, iv w630, iv (own_chr x0 (0 : Int32)), iv (own_chr x0 (8 : Int32)), iv (own_chr x0 (16 : Int32)), iv (own_chr w630 (0 : Int32)), iv (own_chr w630 (8 : Int32)), iv (own_chr w630 (16 : Int32)), rv s_641, rv s_646, rv b660, iv (((x2.toUInt32 >>> ((5 : Int32) &&& 31).toUInt32).toInt32) &&& (3 : Int32)), rv b712, iv (1 : Int32)] [(.int (1 : Int32)), (.int (own_eqv (own_nm la (own_chr x0 (0 : Int32)) (own_chr x0 (8 : Int32)) (own_chr x0 (16 : Int32))) (own_nm lb (own_chr w630 (0 : Int32)) (own_chr w630 (8 : Int32)) (own_chr w630 (16 : Int32)))))])) (fun t k => XS.iload X776.here hx rfl (hb hby at_244) rfl k) ?_
                    refine own_go (T' := T776) (g' := (mkF m 249 #[iv x0, iv x1, iv x2, iv la, iv lb, iv w630, iv (own_chr x0 (0 : Int32)), iv (own_chr x0 (8 : Int32)), iv (own_chr x0 (16 : Int32)), iv (own_chr w630 (0 : Int32)), iv (own_chr w630 (8 : Int32)), iv (own_chr w630 (16 : Int32)), rv s_641, rv s_646, rv b660, iv (((x2.toUInt32 >>> ((5 : Int32) &&& 31).toUInt32).toInt32) &&& (3 : Int32)), rv b712, iv (1 : Int32)] [])) (fun t k => XS.icmpNo X776.here hx rfl (hb hby at_246) rfl (teq (((own_key hl_la hl_lb _ _ _ _ _ _).trans ((if_pos hc769).trans ((if_pos hc770).trans ((if_pos hc771).trans ((if_neg hc772).trans (if_pos hc775)))))) : ((own_eqv (own_nm la (own_chr x0 (0 : Int32)) (own_chr x0 (8 : Int32)) (own_chr x0 (16 : Int32))) (own_nm lb (own_chr w630 (0 : Int32)) (own_chr w630 (8 : Int32)) (own_chr w630 (16 : Int32)))) = (1 : Int32)))).2 k) ?_
                    refine own_go (T' := T776) (g' := (mkF m 251 #[iv x0, iv x1, iv x2, iv la, iv lb, iv w630, iv (own_chr x0 (0 : Int32)), iv (own_chr x0 (8 : Int32)), iv (own_chr x0 (16 : Int32)), iv (own_chr w630 (0 : Int32)), iv (own_chr w630 (8 : Int32)), iv (own_chr w630 (16 : Int32)), rv s_641, rv s_646, rv b660, iv (((x2.toUInt32 >>> ((5 : Int32) &&& 31).toUInt32).toInt32) &&& (3 : Int32)), rv b712, iv (1 : Int32)] [(.ref b712)])) (fun t k => XS.aload X776.here hx rfl (hb hby at_249) rfl rfl k) ?_
                    refine own_go (T' := T776) (g' := (mkF m 253 #[iv x0, iv x1, iv x2, iv la, iv lb, iv w630, iv (own_chr x0 (0 : Int32)), iv (own_chr x0 (8 : Int32)), iv (own_chr x0 (16 : Int32)), iv (own_chr w630 (0 : Int32)), iv (own_chr w630 (8 : Int32)), iv (own_chr w630 (16 : Int32)), rv s_641, rv s_646, rv b660, iv (((x2.toUInt32 >>> ((5 : Int32) &&& 31).toUInt32).toInt32) &&& (3 : Int32)), rv b712, iv (1 : Int32)] [(.ref b660), (.ref b712)])) (fun t k => XS.aload X776.here hx rfl (hb hby at_251) rfl rfl k) ?_
                    obtain ⟨cq777, kq777, q777a, q777b, q777c⟩ := isOf hZ E776q e_734
                    obtain ⟨_, _, ⟨T777, L777, k777, n777⟩, -, X777, ⟨Lc777, hQ777, l777, y777, z777⟩, st777⟩ := X776.virtualBack hx (y := (⟨"com/example/events_in_order/eventsinorder/model/Topic", "equals", "(Ljava/lang/Object;)Z"⟩ : MethodName)) (z := (⟨"com/example/events_in_order/eventsinorder/model/Topic", "equals", "(Ljava/lang/Object;)Z"⟩ : MethodName)) hown (mvT hZ (hw _ (List.mem_of_getElem? (i := 125) rfl))) (mvT hZ (hw _ (List.mem_of_getElem? (i := 126) rfl))) (notFace_of_selects (args := #[]) (mvT hZ (hw _ (List.mem_of_getElem? (i := 128) rfl)))) (mvT hZ (hw _ (List.mem_of_getElem? (i := 128) rfl))) (mvT hZ (hw _ (List.mem_of_getElem? (i := 127) rfl))) (by decide) (backOf (W := 0) (own_rtt l Z a0 hw [] b712 b660 s_646 s_641 b_646 b_641 k_646 k_641 (own_ln lb) (own_ln la) cp (own_nm lb (own_chr w630 (0 : Int32)) (own_chr w630 (8 : Int32)) (own_chr w630 (16 : Int32))) (own_nm la (own_chr x0 (0 : Int32)) (own_chr x0 (8 : Int32)) (own_chr x0 (16 : Int32))) T734.heap n0 hz734 c758 f_734 c759 c748 c749 c750 c739 c740 c741 c751 c742 (own_nm_ok (own_chr_C _ _) (own_chr_C _ _) (own_chr_C _ _)) (own_nm_ok (own_chr_C _ _) (own_chr_C _ _) (own_chr_C _ _)) (Ne.symm nq647) c735 hcp) hZ (hw _ (List.mem_of_getElem? (i := 129) rfl)) (hw _ (List.mem_of_getElem? (i := 40) rfl)) (by decide) (by decide)) q777a q777c (g := (mkF m 253 #[iv x0, iv x1, iv x2, iv la, iv lb, iv w630, iv (own_chr x0 (0 : Int32)), iv (own_chr x0 (8 : Int32)), iv (own_chr x0 (16 : Int32)), iv (own_chr w630 (0 : Int32)), iv (own_chr w630 (8 : Int32)), iv (own_chr w630 (16 : Int32)), rv s_641, rv s_646, rv b660, iv (((x2.toUInt32 >>> ((5 : Int32) &&& 31).toUInt32).toInt32) &&& (3 : Int32)), rv b712, iv (1 : Int32)] [(.ref b660), (.ref b712)])) rfl (by rw [hml]; rfl) (Steps.refl _) (argsL := [(.ref b660)]) (rest := []) (lenOf own_pd19 rfl) rfl (by show 2 * 0 + _ ≤ _; exact Nat.le_of_eq rfl) (hb hby at_253) (fun _ _ => ⟨rfl, E776q, (by decide : 14 + 0 ≤ _), (by decide : 70 + 0 ≤ _)⟩)
                    dsimp only [Pt.U, Pt.locs, Pt.cells, Pt.slots] at X777 l777 y777 z777 st777 hQ777
                    subst l777 y777 z777
                    obtain ⟨rfl, rfl, e777⟩ := hQ777
                    have E777q : T777.heap = T734.heap := e777
                    have N777 := Fr.app N776 (Fr.nil n0)
                    refine own_go (T' := T777) (g' := (mkF m 256 #[iv x0, iv x1, iv x2, iv la, iv lb, iv w630, iv (own_chr x0 (0 : Int32)), iv (own_chr x0 (8 : Int32)), iv (own_chr x0 (16 : Int32)), iv (own_chr w630 (0 : Int32)), iv (own_chr w630 (8 : Int32)), iv (own_chr w630 (16 : Int32)), rv s_641, rv s_646, rv b660, iv (((x2.toUInt32 >>> ((5 : Int32) &&& 31).toUInt32).toInt32) &&& (3 : Int32)), rv b712, iv (1 : Int32)] [(.int (own_eqv (own_nm lb (own_chr w630 (0 : Int32)) (own_chr w630 (8 : Int32)) (own_chr w630 (16 : Int32))) (own_nm la (own_chr x0 (0 : Int32)) (own_chr x0 (8 : Int32)) (own_chr x0 (16 : Int32)))))])) (fun t k => st777.trans k) ?_
                    refine own_go (T' := T777) (g' := (mkF m 258 #[iv x0, iv x1, iv x2, iv la, iv lb, iv w630, iv (own_chr x0 (0 : Int32)), iv (own_chr x0 (8 : Int32)), iv (own_chr x0 (16 : Int32)), iv (own_chr w630 (0 : Int32)), iv (own_chr w630 (8 : Int32)), iv (own_chr w630 (16 : Int32)), rv s_641, rv s_646, rv b660, iv (((x2.toUInt32 >>> ((5 : Int32) &&& 31).toUInt32).toInt32) &&& (3 : Int32)), rv b712, iv (1 : Int32)] [(.int (1 : Int32)), (.int (own_eqv (own_nm lb (own_chr w630 (0 : Int32)) (own_chr w630 (8 : Int32)) (own_chr w630 (16 : Int32))) (own_nm la (own_chr x0 (0 : Int32)) (own_chr x0 (8 : Int32)) (own_chr x0 (16 : Int32)))))])) (fun t k => XS.iload X777.here hx rfl (hb hby at_256) rfl k) ?_
                    refine own_go (T' := T777) (g' := (mkF m 261 #[iv x0, iv x1, iv x2, iv la, iv lb, iv w630, iv (own_chr x0 (0 : Int32)), iv (own_chr x0 (8 : Int32)), iv (own_chr x0 (16 : Int32)), iv (own_chr w630 (0 : Int32)), iv (own_chr w630 (8 : Int32)), iv (own_chr w630 (16 : Int32)), rv s_641, rv s_646, rv b660, iv (((x2.toUInt32 >>> ((5 : Int32) &&& 31).toUInt32).toInt32) &&& (3 : Int32)), rv b712, iv (1 : Int32)] [])) (fun t k => XS.icmpNo X777.here hx rfl (hb hby at_258) rfl (teq ((own_eqv_comm _ _).trans ((own_key hl_la hl_lb _ _ _ _ _ _).trans ((if_pos hc769).trans ((if_pos hc770).trans ((if_pos hc771).trans ((if_neg hc772).trans (if_pos hc775)))))) : ((own_eqv (own_nm lb (own_chr w630 (0 : Int32)) (own_chr w630 (8 : Int32)) (own_chr w630 (16 : Int32))) (own_nm la (own_chr x0 (0 : Int32)) (own_chr x0 (8 : Int32)) (own_chr x0 (16 : Int32)))) = (1 : Int32)))).2 k) ?_
                    refine own_go (T' := T777) (g' := (mkF m 262 #[iv x0, iv x1, iv x2, iv la, iv lb, iv w630, iv (own_chr x0 (0 : Int32)), iv (own_chr x0 (8 : Int32)), iv (own_chr x0 (16 : Int32)), iv (own_chr w630 (0 : Int32)), iv (own_chr w630 (8 : Int32)), iv (own_chr w630 (16 : Int32)), rv s_641, rv s_646, rv b660, iv (((x2.toUInt32 >>> ((5 : Int32) &&& 31).toUInt32).toInt32) &&& (3 : Int32)), rv b712, iv (1 : Int32)] [(.int (1 : Int32))])) (fun t k => XS.iconst X777.here hx rfl (hb hby at_261) k) ?_
                    refine own_go (T' := T777) (g' := (mkF m 266 #[iv x0, iv x1, iv x2, iv la, iv lb, iv w630, iv (own_chr x0 (0 : Int32)), iv (own_chr x0 (8 : Int32)), iv (own_chr x0 (16 : Int32)), iv (own_chr w630 (0 : Int32)), iv (own_chr w630 (8 : Int32)), iv (own_chr w630 (16 : Int32)), rv s_641, rv s_646, rv b660, iv (((x2.toUInt32 >>> ((5 : Int32) &&& 31).toUInt32).toInt32) &&& (3 : Int32)), rv b712, iv (1 : Int32)] [(.int (1 : Int32))])) (fun t k => XS.goto X777.here hx rfl (pc0 := 262) (pc' := 266) rfl (hb hby at_262) (by decide) (by decide) k) ?_
                    exact own_retW X777 hS734 (by rw [E777q]; exact (Nat.le_refl _)) hlk hx Bd.returns rfl (Or.inl ⟨rfl, Or.inr (Or.inl rfl), _, rfl⟩) (hb hby at_266) (by first | exact ⟨rfl, N777⟩ | (rw [Fr] at *; exact ⟨rfl, by simpa using N777⟩)) (by decide) (by decide)
                  · refine own_go (T' := T734) (g' := (mkF m 234 #[iv x0, iv x1, iv x2, iv la, iv lb, iv w630, iv (own_chr x0 (0 : Int32)), iv (own_chr x0 (8 : Int32)), iv (own_chr x0 (16 : Int32)), iv (own_chr w630 (0 : Int32)), iv (own_chr w630 (8 : Int32)), iv (own_chr w630 (16 : Int32)), rv s_641, rv s_646, rv b660, iv (((x2.toUInt32 >>> ((5 : Int32) &&& 31).toUInt32).toInt32) &&& (3 : Int32)), rv b712, .unset] [])) (fun t k => XS.icmpYes X734.here hx rfl (pc0 := 227) (pc' := 234) rfl (hb hby at_227) rfl (feq hc775).2 (by decide) (by decide) k) ?_
                    refine own_go (T' := T734) (g' := (mkF m 235 #[iv x0, iv x1, iv x2, iv la, iv lb, iv w630, iv (own_chr x0 (0 : Int32)), iv (own_chr x0 (8 : Int32)), iv (own_chr x0 (16 : Int32)), iv (own_chr w630 (0 : Int32)), iv (own_chr w630 (8 : Int32)), iv (own_chr w630 (16 : Int32)), rv s_641, rv s_646, rv b660, iv (((x2.toUInt32 >>> ((5 : Int32) &&& 31).toUInt32).toInt32) &&& (3 : Int32)), rv b712, .unset] [(.int (0 : Int32))])) (fun t k => XS.iconst X734.here hx rfl (hb hby at_234) k) ?_
                    refine own_go (T' := T734) (g' := (mkF m 237 #[iv x0, iv x1, iv x2, iv la, iv lb, iv w630, iv (own_chr x0 (0 : Int32)), iv (own_chr x0 (8 : Int32)), iv (own_chr x0 (16 : Int32)), iv (own_chr w630 (0 : Int32)), iv (own_chr w630 (8 : Int32)), iv (own_chr w630 (16 : Int32)), rv s_641, rv s_646, rv b660, iv (((x2.toUInt32 >>> ((5 : Int32) &&& 31).toUInt32).toInt32) &&& (3 : Int32)), rv b712, iv (0 : Int32)] [])) (fun t k => XS.istore X734.here hx rfl (hb hby at_235) rfl (l' := #[iv x0, iv x1, iv x2, iv la, iv lb, iv w630, iv (own_chr x0 (0 : Int32)), iv (own_chr x0 (8 : Int32)), iv (own_chr x0 (16 : Int32)), iv (own_chr w630 (0 : Int32)), iv (own_chr w630 (8 : Int32)), iv (own_chr w630 (16 : Int32)), rv s_641, rv s_646, rv b660, iv (((x2.toUInt32 >>> ((5 : Int32) &&& 31).toUInt32).toInt32) &&& (3 : Int32)), rv b712, iv (0 : Int32)]) rfl k) ?_
                    refine own_go (T' := T734) (g' := (mkF m 239 #[iv x0, iv x1, iv x2, iv la, iv lb, iv w630, iv (own_chr x0 (0 : Int32)), iv (own_chr x0 (8 : Int32)), iv (own_chr x0 (16 : Int32)), iv (own_chr w630 (0 : Int32)), iv (own_chr w630 (8 : Int32)), iv (own_chr w630 (16 : Int32)), rv s_641, rv s_646, rv b660, iv (((x2.toUInt32 >>> ((5 : Int32) &&& 31).toUInt32).toInt32) &&& (3 : Int32)), rv b712, iv (0 : Int32)] [(.ref b660)])) (fun t k => XS.aload X734.here hx rfl (hb hby at_237) rfl rfl k) ?_
                    refine own_go (T' := T734) (g' := (mkF m 241 #[iv x0, iv x1, iv x2, iv la, iv lb, iv w630, iv (own_chr x0 (0 : Int32)), iv (own_chr x0 (8 : Int32)), iv (own_chr x0 (16 : Int32)), iv (own_chr w630 (0 : Int32)), iv (own_chr w630 (8 : Int32)), iv (own_chr w630 (16 : Int32)), rv s_641, rv s_646, rv b660, iv (((x2.toUInt32 >>> ((5 : Int32) &&& 31).toUInt32).toInt32) &&& (3 : Int32)), rv b712, iv (0 : Int32)] [(.ref b712), (.ref b660)])) (fun t k => XS.aload X734.here hx rfl (hb hby at_239) rfl rfl k) ?_
                    obtain ⟨cq778, kq778, q778a, q778b, q778c⟩ := isOf hZ rfl c758
                    obtain ⟨_, _, ⟨T778, L778, k778, n778⟩, -, X778, ⟨Lc778, hQ778, l778, y778, z778⟩, st778⟩ := X734.virtualBack hx (y := (⟨"com/example/events_in_order/eventsinorder/model/Topic", "equals", "(Ljava/lang/Object;)Z"⟩ : MethodName)) (z := (⟨"com/example/events_in_order/eventsinorder/model/Topic", "equals", "(Ljava/lang/Object;)Z"⟩ : MethodName)) hown (mvT hZ (hw _ (List.mem_of_getElem? (i := 125) rfl))) (mvT hZ (hw _ (List.mem_of_getElem? (i := 126) rfl))) (notFace_of_selects (args := #[]) (mvT hZ (hw _ (List.mem_of_getElem? (i := 128) rfl)))) (mvT hZ (hw _ (List.mem_of_getElem? (i := 128) rfl))) (mvT hZ (hw _ (List.mem_of_getElem? (i := 127) rfl))) (by decide) (backOf (W := 0) (own_rtt l Z a0 hw [] b660 b712 s_641 s_646 b_641 b_646 k_641 k_646 (own_ln la) (own_ln lb) cp (own_nm la (own_chr x0 (0 : Int32)) (own_chr x0 (8 : Int32)) (own_chr x0 (16 : Int32))) (own_nm lb (own_chr w630 (0 : Int32)) (own_chr w630 (8 : Int32)) (own_chr w630 (16 : Int32))) T734.heap n0 hz734 e_734 c759 f_734 c739 c740 c741 c748 c749 c750 c742 c751 (own_nm_ok (own_chr_C _ _) (own_chr_C _ _) (own_chr_C _ _)) (own_nm_ok (own_chr_C _ _) (own_chr_C _ _) (own_chr_C _ _)) nq647 c735 hcp) hZ (hw _ (List.mem_of_getElem? (i := 129) rfl)) (hw _ (List.mem_of_getElem? (i := 40) rfl)) (by decide) (by decide)) q778a q778c (g := (mkF m 241 #[iv x0, iv x1, iv x2, iv la, iv lb, iv w630, iv (own_chr x0 (0 : Int32)), iv (own_chr x0 (8 : Int32)), iv (own_chr x0 (16 : Int32)), iv (own_chr w630 (0 : Int32)), iv (own_chr w630 (8 : Int32)), iv (own_chr w630 (16 : Int32)), rv s_641, rv s_646, rv b660, iv (((x2.toUInt32 >>> ((5 : Int32) &&& 31).toUInt32).toInt32) &&& (3 : Int32)), rv b712, iv (0 : Int32)] [(.ref b712), (.ref b660)])) rfl (by rw [hml]; rfl) (Steps.refl _) (argsL := [(.ref b712)]) (rest := []) (lenOf own_pd19 rfl) rfl (by show 2 * 0 + _ ≤ _; exact Nat.le_of_eq rfl) (hb hby at_241) (fun _ _ => ⟨rfl, rfl, (by decide : 14 + 0 ≤ _), (by decide : 70 + 0 ≤ _)⟩)
                    dsimp only [Pt.U, Pt.locs, Pt.cells, Pt.slots] at X778 l778 y778 z778 st778 hQ778
                    subst l778 y778 z778
                    obtain ⟨rfl, rfl, e778⟩ := hQ778
                    have E778q : T778.heap = T734.heap := e778
                    have N778 := Fr.app N734 (Fr.nil n0)
                    refine own_go (T' := T778) (g' := (mkF m 244 #[iv x0, iv x1, iv x2, iv la, iv lb, iv w630, iv (own_chr x0 (0 : Int32)), iv (own_chr x0 (8 : Int32)), iv (own_chr x0 (16 : Int32)), iv (own_chr w630 (0 : Int32)), iv (own_chr w630 (8 : Int32)), iv (own_chr w630 (16 : Int32)), rv s_641, rv s_646, rv b660, iv (((x2.toUInt32 >>> ((5 : Int32) &&& 31).toUInt32).toInt32) &&& (3 : Int32)), rv b712, iv (0 : Int32)] [(.int (own_eqv (own_nm la (own_chr x0 (0 : Int32)) (own_chr x0 (8 : Int32)) (own_chr x0 (16 : Int32))) (own_nm lb (own_chr w630 (0 : Int32)) (own_chr w630 (8 : Int32)) (own_chr w630 (16 : Int32)))))])) (fun t k => st778.trans k) ?_
                    refine own_go (T' := T778) (g' := (mkF m 246 #[iv x0, iv x1, iv x2, iv la, iv lb, iv w630, iv (own_chr x0 (0 : Int32)), iv (own_chr x0 (8 : Int32)), iv (own_chr x0 (16 : Int32)), iv (own_chr w630 (0 : Int32)), iv (own_chr w630 (8 : Int32)), iv (own_chr w630 (16 : Int32)), rv s_641, rv s_646, rv b660, iv (((x2.toUInt32 >>> ((5 : Int32) &&& 31).toUInt32).toInt32) &&& (3 : Int32)), rv b712, iv (0 : Int32)] [(.int (0 : Int32)), (.int (own_eqv (own_nm la (own_chr x0 (0 : Int32)) (own_chr x0 (8 : Int32)) (own_chr x0 (16 : Int32))) (own_nm lb (own_chr w630 (0 : Int32)) (own_chr w630 (8 : Int32)) (own_chr w630 (16 : Int32)))))])) (fun t k => XS.iload X778.here hx rfl (hb hby at_244) rfl k) ?_
                    refine own_go (T' := T778) (g' := (mkF m 249 #[iv x0, iv x1, iv x2, iv la, iv lb, iv w630, iv (own_chr x0 (0 : Int32)), iv (own_chr x0 (8 : Int32)), iv (own_chr x0 (16 : Int32)), iv (own_chr w630 (0 : Int32)), iv (own_chr w630 (8 : Int32)), iv (own_chr w630 (16 : Int32)), rv s_641, rv s_646, rv b660, iv (((x2.toUInt32 >>> ((5 : Int32) &&& 31).toUInt32).toInt32) &&& (3 : Int32)), rv b712, iv (0 : Int32)] [])) (fun t k => XS.icmpNo X778.here hx rfl (hb hby at_246) rfl (teq (((own_key hl_la hl_lb _ _ _ _ _ _).trans ((if_pos hc769).trans ((if_pos hc770).trans ((if_pos hc771).trans ((if_neg hc772).trans (if_neg hc775)))))) : ((own_eqv (own_nm la (own_chr x0 (0 : Int32)) (own_chr x0 (8 : Int32)) (own_chr x0 (16 : Int32))) (own_nm lb (own_chr w630 (0 : Int32)) (own_chr w630 (8 : Int32)) (own_chr w630 (16 : Int32)))) = (0 : Int32)))).2 k) ?_
                    refine own_go (T' := T778) (g' := (mkF m 251 #[iv x0, iv x1, iv x2, iv la, iv lb, iv w630, iv (own_chr x0 (0 : Int32)), iv (own_chr x0 (8 : Int32)), iv (own_chr x0 (16 : Int32)), iv (own_chr w630 (0 : Int32)), iv (own_chr w630 (8 : Int32)), iv (own_chr w630 (16 : Int32)), rv s_641, rv s_646, rv b660, iv (((x2.toUInt32 >>> ((5 : Int32) &&& 31).toUInt32).toInt32) &&& (3 : Int32)), rv b712, iv (0 : Int32)] [(.ref b712)])) (fun t k => XS.aload X778.here hx rfl (hb hby at_249) rfl rfl k) ?_
                    refine own_go (T' := T778) (g' := (mkF m 253 #[iv x0, iv x1, iv x2, iv la, iv lb, iv w630, iv (own_chr x0 (0 : Int32)), iv (own_chr x0 (8 : Int32)), iv (own_chr x0 (16 : Int32)), iv (own_chr w630 (0 : Int32)), iv (own_chr w630 (8 : Int32)), iv (own_chr w630 (16 : Int32)), rv s_641, rv s_646, rv b660, iv (((x2.toUInt32 >>> ((5 : Int32) &&& 31).toUInt32).toInt32) &&& (3 : Int32)), rv b712, iv (0 : Int32)] [(.ref b660), (.ref b712)])) (fun t k => XS.aload X778.here hx rfl (hb hby at_251) rfl rfl k) ?_
                    obtain ⟨cq779, kq779, q779a, q779b, q779c⟩ := isOf hZ E778q e_734
                    obtain ⟨_, _, ⟨T779, L779, k779, n779⟩, -, X779, ⟨Lc779, hQ779, l779, y779, z779⟩, st779⟩ := X778.virtualBack hx (y := (⟨"com/example/events_in_order/eventsinorder/model/Topic", "equals", "(Ljava/lang/Object;)Z"⟩ : MethodName)) (z := (⟨"com/example/events_in_order/eventsinorder/model/Topic", "equals", "(Ljava/lang/Object;)Z"⟩ : MethodName)) hown (mvT hZ (hw _ (List.mem_of_getElem? (i := 125) rfl))) (mvT hZ (hw _ (List.mem_of_getElem? (i := 126) rfl))) (notFace_of_selects (args := #[]) (mvT hZ (hw _ (List.mem_of_getElem? (i := 128) rfl)))) (mvT hZ (hw _ (List.mem_of_getElem? (i := 128) rfl))) (mvT hZ (hw _ (List.mem_of_getElem? (i := 127) rfl))) (by decide) (backOf (W := 0) (own_rtt l Z a0 hw [] b712 b660 s_646 s_641 b_646 b_641 k_646 k_641 (own_ln lb) (own_ln la) cp (own_nm lb (own_chr w630 (0 : Int32)) (own_chr w630 (8 : Int32)) (own_chr w630 (16 : Int32))) (own_nm la (own_chr x0 (0 : Int32)) (own_chr x0 (8 : Int32)) (own_chr x0 (16 : Int32))) T734.heap n0 hz734 c758 f_734 c759 c748 c749 c750 c739 c740 c741 c751 c742 (own_nm_ok (own_chr_C _ _) (own_chr_C _ _) (own_chr_C _ _)) (own_nm_ok (own_chr_C _ _) (own_chr_C _ _) (own_chr_C _ _)) (Ne.symm nq647) c735 hcp) hZ (hw _ (List.mem_of_getElem? (i := 129) rfl)) (hw _ (List.mem_of_getElem? (i := 40) rfl)) (by decide) (by decide)) q779a q779c (g := (mkF m 253 #[iv x0, iv x1, iv x2, iv la, iv lb, iv w630, iv (own_chr x0 (0 : Int32)), iv (own_chr x0 (8 : Int32)), iv (own_chr x0 (16 : Int32)), iv (own_chr w630 (0 : Int32)), iv (own_chr w630 (8 : Int32)), iv (own_chr w630 (16 : Int32)), rv s_641, rv s_646, rv b660, iv (((x2.toUInt32 >>> ((5 : Int32) &&& 31).toUInt32).toInt32) &&& (3 : Int32)), rv b712, iv (0 : Int32)] [(.ref b660), (.ref b712)])) rfl (by rw [hml]; rfl) (Steps.refl _) (argsL := [(.ref b660)]) (rest := []) (lenOf own_pd19 rfl) rfl (by show 2 * 0 + _ ≤ _; exact Nat.le_of_eq rfl) (hb hby at_253) (fun _ _ => ⟨rfl, E778q, (by decide : 14 + 0 ≤ _), (by decide : 70 + 0 ≤ _)⟩)
                    dsimp only [Pt.U, Pt.locs, Pt.cells, Pt.slots] at X779 l779 y779 z779 st779 hQ779
                    subst l779 y779 z779
                    obtain ⟨rfl, rfl, e779⟩ := hQ779
                    have E779q : T779.heap = T734.heap := e779
                    have N779 := Fr.app N778 (Fr.nil n0)
                    refine own_go (T' := T779) (g' := (mkF m 256 #[iv x0, iv x1, iv x2, iv la, iv lb, iv w630, iv (own_chr x0 (0 : Int32)), iv (own_chr x0 (8 : Int32)), iv (own_chr x0 (16 : Int32)), iv (own_chr w630 (0 : Int32)), iv (own_chr w630 (8 : Int32)), iv (own_chr w630 (16 : Int32)), rv s_641, rv s_646, rv b660, iv (((x2.toUInt32 >>> ((5 : Int32) &&& 31).toUInt32).toInt32) &&& (3 : Int32)), rv b712, iv (0 : Int32)] [(.int (own_eqv (own_nm lb (own_chr w630 (0 : Int32)) (own_chr w630 (8 : Int32)) (own_chr w630 (16 : Int32))) (own_nm la (own_chr x0 (0 : Int32)) (own_chr x0 (8 : Int32)) (own_chr x0 (16 : Int32)))))])) (fun t k => st779.trans k) ?_
                    refine own_go (T' := T779) (g' := (mkF m 258 #[iv x0, iv x1, iv x2, iv la, iv lb, iv w630, iv (own_chr x0 (0 : Int32)), iv (own_chr x0 (8 : Int32)), iv (own_chr x0 (16 : Int32)), iv (own_chr w630 (0 : Int32)), iv (own_chr w630 (8 : Int32)), iv (own_chr w630 (16 : Int32)), rv s_641, rv s_646, rv b660, iv (((x2.toUInt32 >>> ((5 : Int32) &&& 31).toUInt32).toInt32) &&& (3 : Int32)), rv b712, iv (0 : Int32)] [(.int (0 : Int32)), (.int (own_eqv (own_nm lb (own_chr w630 (0 : Int32)) (own_chr w630 (8 : Int32)) (own_chr w630 (16 : Int32))) (own_nm la (own_chr x0 (0 : Int32)) (own_chr x0 (8 : Int32)) (own_chr x0 (16 : Int32)))))])) (fun t k => XS.iload X779.here hx rfl (hb hby at_256) rfl k) ?_
                    refine own_go (T' := T779) (g' := (mkF m 261 #[iv x0, iv x1, iv x2, iv la, iv lb, iv w630, iv (own_chr x0 (0 : Int32)), iv (own_chr x0 (8 : Int32)), iv (own_chr x0 (16 : Int32)), iv (own_chr w630 (0 : Int32)), iv (own_chr w630 (8 : Int32)), iv (own_chr w630 (16 : Int32)), rv s_641, rv s_646, rv b660, iv (((x2.toUInt32 >>> ((5 : Int32) &&& 31).toUInt32).toInt32) &&& (3 : Int32)), rv b712, iv (0 : Int32)] [])) (fun t k => XS.icmpNo X779.here hx rfl (hb hby at_258) rfl (teq ((own_eqv_comm _ _).trans ((own_key hl_la hl_lb _ _ _ _ _ _).trans ((if_pos hc769).trans ((if_pos hc770).trans ((if_pos hc771).trans ((if_neg hc772).trans (if_neg hc775)))))) : ((own_eqv (own_nm lb (own_chr w630 (0 : Int32)) (own_chr w630 (8 : Int32)) (own_chr w630 (16 : Int32))) (own_nm la (own_chr x0 (0 : Int32)) (own_chr x0 (8 : Int32)) (own_chr x0 (16 : Int32)))) = (0 : Int32)))).2 k) ?_
                    refine own_go (T' := T779) (g' := (mkF m 262 #[iv x0, iv x1, iv x2, iv la, iv lb, iv w630, iv (own_chr x0 (0 : Int32)), iv (own_chr x0 (8 : Int32)), iv (own_chr x0 (16 : Int32)), iv (own_chr w630 (0 : Int32)), iv (own_chr w630 (8 : Int32)), iv (own_chr w630 (16 : Int32)), rv s_641, rv s_646, rv b660, iv (((x2.toUInt32 >>> ((5 : Int32) &&& 31).toUInt32).toInt32) &&& (3 : Int32)), rv b712, iv (0 : Int32)] [(.int (1 : Int32))])) (fun t k => XS.iconst X779.here hx rfl (hb hby at_261) k) ?_
                    refine own_go (T' := T779) (g' := (mkF m 266 #[iv x0, iv x1, iv x2, iv la, iv lb, iv w630, iv (own_chr x0 (0 : Int32)), iv (own_chr x0 (8 : Int32)), iv (own_chr x0 (16 : Int32)), iv (own_chr w630 (0 : Int32)), iv (own_chr w630 (8 : Int32)), iv (own_chr w630 (16 : Int32)), rv s_641, rv s_646, rv b660, iv (((x2.toUInt32 >>> ((5 : Int32) &&& 31).toUInt32).toInt32) &&& (3 : Int32)), rv b712, iv (0 : Int32)] [(.int (1 : Int32))])) (fun t k => XS.goto X779.here hx rfl (pc0 := 262) (pc' := 266) rfl (hb hby at_262) (by decide) (by decide) k) ?_
                    exact own_retW X779 hS734 (by rw [E779q]; exact (Nat.le_refl _)) hlk hx Bd.returns rfl (Or.inl ⟨rfl, Or.inr (Or.inl rfl), _, rfl⟩) (hb hby at_266) (by first | exact ⟨rfl, N779⟩ | (rw [Fr] at *; exact ⟨rfl, by simpa using N779⟩)) (by decide) (by decide)
              · refine own_go (T' := T734) (g' := (mkF m 211 #[iv x0, iv x1, iv x2, iv la, iv lb, iv w630, iv (own_chr x0 (0 : Int32)), iv (own_chr x0 (8 : Int32)), iv (own_chr x0 (16 : Int32)), iv (own_chr w630 (0 : Int32)), iv (own_chr w630 (8 : Int32)), iv (own_chr w630 (16 : Int32)), rv s_641, rv s_646, rv b660, iv (((x2.toUInt32 >>> ((5 : Int32) &&& 31).toUInt32).toInt32) &&& (3 : Int32)), rv b712, .unset] [])) (fun t k => XS.icmpNo X734.here hx rfl (hb hby at_208) rfl (flt hc771).1 k) ?_
                refine own_go (T' := T734) (g' := (mkF m 213 #[iv x0, iv x1, iv x2, iv la, iv lb, iv w630, iv (own_chr x0 (0 : Int32)), iv (own_chr x0 (8 : Int32)), iv (own_chr x0 (16 : Int32)), iv (own_chr w630 (0 : Int32)), iv (own_chr w630 (8 : Int32)), iv (own_chr w630 (16 : Int32)), rv s_641, rv s_646, rv b660, iv (((x2.toUInt32 >>> ((5 : Int32) &&& 31).toUInt32).toInt32) &&& (3 : Int32)), rv b712, .unset] [(.int (own_chr x0 (8 : Int32)))])) (fun t k => XS.iload X734.here hx rfl (hb hby at_211) rfl k) ?_
                refine own_go (T' := T734) (g' := (mkF m 215 #[iv x0, iv x1, iv x2, iv la, iv lb, iv w630, iv (own_chr x0 (0 : Int32)), iv (own_chr x0 (8 : Int32)), iv (own_chr x0 (16 : Int32)), iv (own_chr w630 (0 : Int32)), iv (own_chr w630 (8 : Int32)), iv (own_chr w630 (16 : Int32)), rv s_641, rv s_646, rv b660, iv (((x2.toUInt32 >>> ((5 : Int32) &&& 31).toUInt32).toInt32) &&& (3 : Int32)), rv b712, .unset] [(.int (own_chr w630 (8 : Int32))), (.int (own_chr x0 (8 : Int32)))])) (fun t k => XS.iload X734.here hx rfl (hb hby at_213) rfl k) ?_
                by_cases hc780 : (own_chr x0 (8 : Int32)) = (own_chr w630 (8 : Int32))
                · refine own_go (T' := T734) (g' := (mkF m 218 #[iv x0, iv x1, iv x2, iv la, iv lb, iv w630, iv (own_chr x0 (0 : Int32)), iv (own_chr x0 (8 : Int32)), iv (own_chr x0 (16 : Int32)), iv (own_chr w630 (0 : Int32)), iv (own_chr w630 (8 : Int32)), iv (own_chr w630 (16 : Int32)), rv s_641, rv s_646, rv b660, iv (((x2.toUInt32 >>> ((5 : Int32) &&& 31).toUInt32).toInt32) &&& (3 : Int32)), rv b712, .unset] [])) (fun t k => XS.icmpNo X734.here hx rfl (hb hby at_215) rfl (teq hc780).2 k) ?_
                  refine own_go (T' := T734) (g' := (mkF m 219 #[iv x0, iv x1, iv x2, iv la, iv lb, iv w630, iv (own_chr x0 (0 : Int32)), iv (own_chr x0 (8 : Int32)), iv (own_chr x0 (16 : Int32)), iv (own_chr w630 (0 : Int32)), iv (own_chr w630 (8 : Int32)), iv (own_chr w630 (16 : Int32)), rv s_641, rv s_646, rv b660, iv (((x2.toUInt32 >>> ((5 : Int32) &&& 31).toUInt32).toInt32) &&& (3 : Int32)), rv b712, .unset] [(.int la)])) (fun t k => XS.iloadN X734.here hx rfl (hb hby at_218) rfl k) ?_
                  refine own_go (T' := T734) (g' := (mkF m 220 #[iv x0, iv x1, iv x2, iv la, iv lb, iv w630, iv (own_chr x0 (0 : Int32)), iv (own_chr x0 (8 : Int32)), iv (own_chr x0 (16 : Int32)), iv (own_chr w630 (0 : Int32)), iv (own_chr w630 (8 : Int32)), iv (own_chr w630 (16 : Int32)), rv s_641, rv s_646, rv b660, iv (((x2.toUInt32 >>> ((5 : Int32) &&& 31).toUInt32).toInt32) &&& (3 : Int32)), rv b712, .unset] [(.int (3 : Int32)), (.int la)])) (fun t k => XS.iconst X734.here hx rfl (hb hby at_219) k) ?_
                  by_cases hc781 : la < (3 : Int32)
                  · refine own_go (T' := T734) (g' := (mkF m 230 #[iv x0, iv x1, iv x2, iv la, iv lb, iv w630, iv (own_chr x0 (0 : Int32)), iv (own_chr x0 (8 : Int32)), iv (own_chr x0 (16 : Int32)), iv (own_chr w630 (0 : Int32)), iv (own_chr w630 (8 : Int32)), iv (own_chr w630 (16 : Int32)), rv s_641, rv s_646, rv b660, iv (((x2.toUInt32 >>> ((5 : Int32) &&& 31).toUInt32).toInt32) &&& (3 : Int32)), rv b712, .unset] [])) (fun t k => XS.icmpYes X734.here hx rfl (pc0 := 220) (pc' := 230) rfl (hb hby at_220) rfl (tlt hc781).1 (by decide) (by decide) k) ?_
                    refine own_go (T' := T734) (g' := (mkF m 231 #[iv x0, iv x1, iv x2, iv la, iv lb, iv w630, iv (own_chr x0 (0 : Int32)), iv (own_chr x0 (8 : Int32)), iv (own_chr x0 (16 : Int32)), iv (own_chr w630 (0 : Int32)), iv (own_chr w630 (8 : Int32)), iv (own_chr w630 (16 : Int32)), rv s_641, rv s_646, rv b660, iv (((x2.toUInt32 >>> ((5 : Int32) &&& 31).toUInt32).toInt32) &&& (3 : Int32)), rv b712, .unset] [(.int (1 : Int32))])) (fun t k => XS.iconst X734.here hx rfl (hb hby at_230) k) ?_
                    refine own_go (T' := T734) (g' := (mkF m 235 #[iv x0, iv x1, iv x2, iv la, iv lb, iv w630, iv (own_chr x0 (0 : Int32)), iv (own_chr x0 (8 : Int32)), iv (own_chr x0 (16 : Int32)), iv (own_chr w630 (0 : Int32)), iv (own_chr w630 (8 : Int32)), iv (own_chr w630 (16 : Int32)), rv s_641, rv s_646, rv b660, iv (((x2.toUInt32 >>> ((5 : Int32) &&& 31).toUInt32).toInt32) &&& (3 : Int32)), rv b712, .unset] [(.int (1 : Int32))])) (fun t k => XS.goto X734.here hx rfl (pc0 := 231) (pc' := 235) rfl (hb hby at_231) (by decide) (by decide) k) ?_
                    refine own_go (T' := T734) (g' := (mkF m 237 #[iv x0, iv x1, iv x2, iv la, iv lb, iv w630, iv (own_chr x0 (0 : Int32)), iv (own_chr x0 (8 : Int32)), iv (own_chr x0 (16 : Int32)), iv (own_chr w630 (0 : Int32)), iv (own_chr w630 (8 : Int32)), iv (own_chr w630 (16 : Int32)), rv s_641, rv s_646, rv b660, iv (((x2.toUInt32 >>> ((5 : Int32) &&& 31).toUInt32).toInt32) &&& (3 : Int32)), rv b712, iv (1 : Int32)] [])) (fun t k => XS.istore X734.here hx rfl (hb hby at_235) rfl (l' := #[iv x0, iv x1, iv x2, iv la, iv lb, iv w630, iv (own_chr x0 (0 : Int32)), iv (own_chr x0 (8 : Int32)), iv (own_chr x0 (16 : Int32)), iv (own_chr w630 (0 : Int32)), iv (own_chr w630 (8 : Int32)), iv (own_chr w630 (16 : Int32)), rv s_641, rv s_646, rv b660, iv (((x2.toUInt32 >>> ((5 : Int32) &&& 31).toUInt32).toInt32) &&& (3 : Int32)), rv b712, iv (1 : Int32)]) rfl k) ?_
                    refine own_go (T' := T734) (g' := (mkF m 239 #[iv x0, iv x1, iv x2, iv la, iv lb, iv w630, iv (own_chr x0 (0 : Int32)), iv (own_chr x0 (8 : Int32)), iv (own_chr x0 (16 : Int32)), iv (own_chr w630 (0 : Int32)), iv (own_chr w630 (8 : Int32)), iv (own_chr w630 (16 : Int32)), rv s_641, rv s_646, rv b660, iv (((x2.toUInt32 >>> ((5 : Int32) &&& 31).toUInt32).toInt32) &&& (3 : Int32)), rv b712, iv (1 : Int32)] [(.ref b660)])) (fun t k => XS.aload X734.here hx rfl (hb hby at_237) rfl rfl k) ?_
                    refine own_go (T' := T734) (g' := (mkF m 241 #[iv x0, iv x1, iv x2, iv la, iv lb, iv w630, iv (own_chr x0 (0 : Int32)), iv (own_chr x0 (8 : Int32)), iv (own_chr x0 (16 : Int32)), iv (own_chr w630 (0 : Int32)), iv (own_chr w630 (8 : Int32)), iv (own_chr w630 (16 : Int32)), rv s_641, rv s_646, rv b660, iv (((x2.toUInt32 >>> ((5 : Int32) &&& 31).toUInt32).toInt32) &&& (3 : Int32)), rv b712, iv (1 : Int32)] [(.ref b712), (.ref b660)])) (fun t k => XS.aload X734.here hx rfl (hb hby at_239) rfl rfl k) ?_
                    obtain ⟨cq782, kq782, q782a, q782b, q782c⟩ := isOf hZ rfl c758
                    obtain ⟨_, _, ⟨T782, L782, k782, n782⟩, -, X782, ⟨Lc782, hQ782, l782, y782, z782⟩, st782⟩ := X734.virtualBack hx (y := (⟨"com/example/events_in_order/eventsinorder/model/Topic", "equals", "(Ljava/lang/Object;)Z"⟩ : MethodName)) (z := (⟨"com/example/events_in_order/eventsinorder/model/Topic", "equals", "(Ljava/lang/Object;)Z"⟩ : MethodName)) hown (mvT hZ (hw _ (List.mem_of_getElem? (i := 125) rfl))) (mvT hZ (hw _ (List.mem_of_getElem? (i := 126) rfl))) (notFace_of_selects (args := #[]) (mvT hZ (hw _ (List.mem_of_getElem? (i := 128) rfl)))) (mvT hZ (hw _ (List.mem_of_getElem? (i := 128) rfl))) (mvT hZ (hw _ (List.mem_of_getElem? (i := 127) rfl))) (by decide) (backOf (W := 0) (own_rtt l Z a0 hw [] b660 b712 s_641 s_646 b_641 b_646 k_641 k_646 (own_ln la) (own_ln lb) cp (own_nm la (own_chr x0 (0 : Int32)) (own_chr x0 (8 : Int32)) (own_chr x0 (16 : Int32))) (own_nm lb (own_chr w630 (0 : Int32)) (own_chr w630 (8 : Int32)) (own_chr w630 (16 : Int32))) T734.heap n0 hz734 e_734 c759 f_734 c739 c740 c741 c748 c749 c750 c742 c751 (own_nm_ok (own_chr_C _ _) (own_chr_C _ _) (own_chr_C _ _)) (own_nm_ok (own_chr_C _ _) (own_chr_C _ _) (own_chr_C _ _)) nq647 c735 hcp) hZ (hw _ (List.mem_of_getElem? (i := 129) rfl)) (hw _ (List.mem_of_getElem? (i := 40) rfl)) (by decide) (by decide)) q782a q782c (g := (mkF m 241 #[iv x0, iv x1, iv x2, iv la, iv lb, iv w630, iv (own_chr x0 (0 : Int32)), iv (own_chr x0 (8 : Int32)), iv (own_chr x0 (16 : Int32)), iv (own_chr w630 (0 : Int32)), iv (own_chr w630 (8 : Int32)), iv (own_chr w630 (16 : Int32)), rv s_641, rv s_646, rv b660, iv (((x2.toUInt32 >>> ((5 : Int32) &&& 31).toUInt32).toInt32) &&& (3 : Int32)), rv b712, iv (1 : Int32)] [(.ref b712), (.ref b660)])) rfl (by rw [hml]; rfl) (Steps.refl _) (argsL := [(.ref b712)]) (rest := []) (lenOf own_pd19 rfl) rfl (by show 2 * 0 + _ ≤ _; exact Nat.le_of_eq rfl) (hb hby at_241) (fun _ _ => ⟨rfl, rfl, (by decide : 14 + 0 ≤ _), (by decide : 70 + 0 ≤ _)⟩)
                    dsimp only [Pt.U, Pt.locs, Pt.cells, Pt.slots] at X782 l782 y782 z782 st782 hQ782
                    subst l782 y782 z782
                    obtain ⟨rfl, rfl, e782⟩ := hQ782
                    have E782q : T782.heap = T734.heap := e782
                    have N782 := Fr.app N734 (Fr.nil n0)
                    refine own_go (T' := T782) (g' := (mkF m 244 #[iv x0, iv x1, iv x2, iv la, iv lb, iv w630, iv (own_chr x0 (0 : Int32)), iv (own_chr x0 (8 : Int32)), iv (own_chr x0 (16 : Int32)), iv (own_chr w630 (0 : Int32)), iv (own_chr w630 (8 : Int32)), iv (own_chr w630 (16 : Int32)), rv s_641, rv s_646, rv b660, iv (((x2.toUInt32 >>> ((5 : Int32) &&& 31).toUInt32).toInt32) &&& (3 : Int32)), rv b712, iv (1 : Int32)] [(.int (own_eqv (own_nm la (own_chr x0 (0 : Int32)) (own_chr x0 (8 : Int32)) (own_chr x0 (16 : Int32))) (own_nm lb (own_chr w630 (0 : Int32)) (own_chr w630 (8 : Int32)) (own_chr w630 (16 : Int32)))))])) (fun t k => st782.trans k) ?_
                    refine own_go (T' := T782) (g' := (mkF m 246 #[iv x0, iv x1, iv x2, iv la, iv lb, iv w630, iv (own_chr x0 (0 : Int32)), iv (own_chr x0 (8 : Int32)), iv (own_chr x0 (16 : Int32)), iv (own_chr w630 (0 : Int32)), iv (own_chr w630 (8 : Int32)), iv (own_chr w630 (16 : Int32)), rv s_641, rv s_646, rv b660, iv (((x2.toUInt32 >>> ((5 : Int32) &&& 31).toUInt32).toInt32) &&& (3 : Int32)), rv b712, iv (1 : Int32)] [(.int (1 : Int32)), (.int (own_eqv (own_nm la (own_chr x0 (0 : Int32)) (own_chr x0 (8 : Int32)) (own_chr x0 (16 : Int32))) (own_nm lb (own_chr w630 (0 : Int32)) (own_chr w630 (8 : Int32)) (own_chr w630 (16 : Int32)))))])) (fun t k => XS.iload X782.here hx rfl (hb hby at_244) rfl k) ?_
                    refine own_go (T' := T782) (g' := (mkF m 249 #[iv x0, iv x1, iv x2, iv la, iv lb, iv w630, iv (own_chr x0 (0 : Int32)), iv (own_chr x0 (8 : Int32)), iv (own_chr x0 (16 : Int32)), iv (own_chr w630 (0 : Int32)), iv (own_chr w630 (8 : Int32)), iv (own_chr w630 (16 : Int32)), rv s_641, rv s_646, rv b660, iv (((x2.toUInt32 >>> ((5 : Int32) &&& 31).toUInt32).toInt32) &&& (3 : Int32)), rv b712, iv (1 : Int32)] [])) (fun t k => XS.icmpNo X782.here hx rfl (hb hby at_246) rfl (teq (((own_key hl_la hl_lb _ _ _ _ _ _).trans ((if_pos hc769).trans ((if_pos hc770).trans ((if_neg hc771).trans ((if_pos hc780).trans (if_pos hc781)))))) : ((own_eqv (own_nm la (own_chr x0 (0 : Int32)) (own_chr x0 (8 : Int32)) (own_chr x0 (16 : Int32))) (own_nm lb (own_chr w630 (0 : Int32)) (own_chr w630 (8 : Int32)) (own_chr w630 (16 : Int32)))) = (1 : Int32)))).2 k) ?_
                    refine own_go (T' := T782) (g' := (mkF m 251 #[iv x0, iv x1, iv x2, iv la, iv lb, iv w630, iv (own_chr x0 (0 : Int32)), iv (own_chr x0 (8 : Int32)), iv (own_chr x0 (16 : Int32)), iv (own_chr w630 (0 : Int32)), iv (own_chr w630 (8 : Int32)), iv (own_chr w630 (16 : Int32)), rv s_641, rv s_646, rv b660, iv (((x2.toUInt32 >>> ((5 : Int32) &&& 31).toUInt32).toInt32) &&& (3 : Int32)), rv b712, iv (1 : Int32)] [(.ref b712)])) (fun t k => XS.aload X782.here hx rfl (hb hby at_249) rfl rfl k) ?_
                    refine own_go (T' := T782) (g' := (mkF m 253 #[iv x0, iv x1, iv x2, iv la, iv lb, iv w630, iv (own_chr x0 (0 : Int32)), iv (own_chr x0 (8 : Int32)), iv (own_chr x0 (16 : Int32)), iv (own_chr w630 (0 : Int32)), iv (own_chr w630 (8 : Int32)), iv (own_chr w630 (16 : Int32)), rv s_641, rv s_646, rv b660, iv (((x2.toUInt32 >>> ((5 : Int32) &&& 31).toUInt32).toInt32) &&& (3 : Int32)), rv b712, iv (1 : Int32)] [(.ref b660), (.ref b712)])) (fun t k => XS.aload X782.here hx rfl (hb hby at_251) rfl rfl k) ?_
                    obtain ⟨cq783, kq783, q783a, q783b, q783c⟩ := isOf hZ E782q e_734
                    obtain ⟨_, _, ⟨T783, L783, k783, n783⟩, -, X783, ⟨Lc783, hQ783, l783, y783, z783⟩, st783⟩ := X782.virtualBack hx (y := (⟨"com/example/events_in_order/eventsinorder/model/Topic", "equals", "(Ljava/lang/Object;)Z"⟩ : MethodName)) (z := (⟨"com/example/events_in_order/eventsinorder/model/Topic", "equals", "(Ljava/lang/Object;)Z"⟩ : MethodName)) hown (mvT hZ (hw _ (List.mem_of_getElem? (i := 125) rfl))) (mvT hZ (hw _ (List.mem_of_getElem? (i := 126) rfl))) (notFace_of_selects (args := #[]) (mvT hZ (hw _ (List.mem_of_getElem? (i := 128) rfl)))) (mvT hZ (hw _ (List.mem_of_getElem? (i := 128) rfl))) (mvT hZ (hw _ (List.mem_of_getElem? (i := 127) rfl))) (by decide) (backOf (W := 0) (own_rtt l Z a0 hw [] b712 b660 s_646 s_641 b_646 b_641 k_646 k_641 (own_ln lb) (own_ln la) cp (own_nm lb (own_chr w630 (0 : Int32)) (own_chr w630 (8 : Int32)) (own_chr w630 (16 : Int32))) (own_nm la (own_chr x0 (0 : Int32)) (own_chr x0 (8 : Int32)) (own_chr x0 (16 : Int32))) T734.heap n0 hz734 c758 f_734 c759 c748 c749 c750 c739 c740 c741 c751 c742 (own_nm_ok (own_chr_C _ _) (own_chr_C _ _) (own_chr_C _ _)) (own_nm_ok (own_chr_C _ _) (own_chr_C _ _) (own_chr_C _ _)) (Ne.symm nq647) c735 hcp) hZ (hw _ (List.mem_of_getElem? (i := 129) rfl)) (hw _ (List.mem_of_getElem? (i := 40) rfl)) (by decide) (by decide)) q783a q783c (g := (mkF m 253 #[iv x0, iv x1, iv x2, iv la, iv lb, iv w630, iv (own_chr x0 (0 : Int32)), iv (own_chr x0 (8 : Int32)), iv (own_chr x0 (16 : Int32)), iv (own_chr w630 (0 : Int32)), iv (own_chr w630 (8 : Int32)), iv (own_chr w630 (16 : Int32)), rv s_641, rv s_646, rv b660, iv (((x2.toUInt32 >>> ((5 : Int32) &&& 31).toUInt32).toInt32) &&& (3 : Int32)), rv b712, iv (1 : Int32)] [(.ref b660), (.ref b712)])) rfl (by rw [hml]; rfl) (Steps.refl _) (argsL := [(.ref b660)]) (rest := []) (lenOf own_pd19 rfl) rfl (by show 2 * 0 + _ ≤ _; exact Nat.le_of_eq rfl) (hb hby at_253) (fun _ _ => ⟨rfl, E782q, (by decide : 14 + 0 ≤ _), (by decide : 70 + 0 ≤ _)⟩)
                    dsimp only [Pt.U, Pt.locs, Pt.cells, Pt.slots] at X783 l783 y783 z783 st783 hQ783
                    subst l783 y783 z783
                    obtain ⟨rfl, rfl, e783⟩ := hQ783
                    have E783q : T783.heap = T734.heap := e783
                    have N783 := Fr.app N782 (Fr.nil n0)
                    refine own_go (T' := T783) (g' := (mkF m 256 #[iv x0, iv x1, iv x2, iv la, iv lb, iv w630, iv (own_chr x0 (0 : Int32)), iv (own_chr x0 (8 : Int32)), iv (own_chr x0 (16 : Int32)), iv (own_chr w630 (0 : Int32)), iv (own_chr w630 (8 : Int32)), iv (own_chr w630 (16 : Int32)), rv s_641, rv s_646, rv b660, iv (((x2.toUInt32 >>> ((5 : Int32) &&& 31).toUInt32).toInt32) &&& (3 : Int32)), rv b712, iv (1 : Int32)] [(.int (own_eqv (own_nm lb (own_chr w630 (0 : Int32)) (own_chr w630 (8 : Int32)) (own_chr w630 (16 : Int32))) (own_nm la (own_chr x0 (0 : Int32)) (own_chr x0 (8 : Int32)) (own_chr x0 (16 : Int32)))))])) (fun t k => st783.trans k) ?_
                    refine own_go (T' := T783) (g' := (mkF m 258 #[iv x0, iv x1, iv x2, iv la, iv lb, iv w630, iv (own_chr x0 (0 : Int32)), iv (own_chr x0 (8 : Int32)), iv (own_chr x0 (16 : Int32)), iv (own_chr w630 (0 : Int32)), iv (own_chr w630 (8 : Int32)), iv (own_chr w630 (16 : Int32)), rv s_641, rv s_646, rv b660, iv (((x2.toUInt32 >>> ((5 : Int32) &&& 31).toUInt32).toInt32) &&& (3 : Int32)), rv b712, iv (1 : Int32)] [(.int (1 : Int32)), (.int (own_eqv (own_nm lb (own_chr w630 (0 : Int32)) (own_chr w630 (8 : Int32)) (own_chr w630 (16 : Int32))) (own_nm la (own_chr x0 (0 : Int32)) (own_chr x0 (8 : Int32)) (own_chr x0 (16 : Int32)))))])) (fun t k => XS.iload X783.here hx rfl (hb hby at_256) rfl k) ?_
                    refine own_go (T' := T783) (g' := (mkF m 261 #[iv x0, iv x1, iv x2, iv la, iv lb, iv w630, iv (own_chr x0 (0 : Int32)), iv (own_chr x0 (8 : Int32)), iv (own_chr x0 (16 : Int32)), iv (own_chr w630 (0 : Int32)), iv (own_chr w630 (8 : Int32)), iv (own_chr w630 (16 : Int32)), rv s_641, rv s_646, rv b660, iv (((x2.toUInt32 >>> ((5 : Int32) &&& 31).toUInt32).toInt32) &&& (3 : Int32)), rv b712, iv (1 : Int32)] [])) (fun t k => XS.icmpNo X783.here hx rfl (hb hby at_258) rfl (teq ((own_eqv_comm _ _).trans ((own_key hl_la hl_lb _ _ _ _ _ _).trans ((if_pos hc769).trans ((if_pos hc770).trans ((if_neg hc771).trans ((if_pos hc780).trans (if_pos hc781)))))) : ((own_eqv (own_nm lb (own_chr w630 (0 : Int32)) (own_chr w630 (8 : Int32)) (own_chr w630 (16 : Int32))) (own_nm la (own_chr x0 (0 : Int32)) (own_chr x0 (8 : Int32)) (own_chr x0 (16 : Int32)))) = (1 : Int32)))).2 k) ?_
                    refine own_go (T' := T783) (g' := (mkF m 262 #[iv x0, iv x1, iv x2, iv la, iv lb, iv w630, iv (own_chr x0 (0 : Int32)), iv (own_chr x0 (8 : Int32)), iv (own_chr x0 (16 : Int32)), iv (own_chr w630 (0 : Int32)), iv (own_chr w630 (8 : Int32)), iv (own_chr w630 (16 : Int32)), rv s_641, rv s_646, rv b660, iv (((x2.toUInt32 >>> ((5 : Int32) &&& 31).toUInt32).toInt32) &&& (3 : Int32)), rv b712, iv (1 : Int32)] [(.int (1 : Int32))])) (fun t k => XS.iconst X783.here hx rfl (hb hby at_261) k) ?_
                    refine own_go (T' := T783) (g' := (mkF m 266 #[iv x0, iv x1, iv x2, iv la, iv lb, iv w630, iv (own_chr x0 (0 : Int32)), iv (own_chr x0 (8 : Int32)), iv (own_chr x0 (16 : Int32)), iv (own_chr w630 (0 : Int32)), iv (own_chr w630 (8 : Int32)), iv (own_chr w630 (16 : Int32)), rv s_641, rv s_646, rv b660, iv (((x2.toUInt32 >>> ((5 : Int32) &&& 31).toUInt32).toInt32) &&& (3 : Int32)), rv b712, iv (1 : Int32)] [(.int (1 : Int32))])) (fun t k => XS.goto X783.here hx rfl (pc0 := 262) (pc' := 266) rfl (hb hby at_262) (by decide) (by decide) k) ?_
                    exact own_retW X783 hS734 (by rw [E783q]; exact (Nat.le_refl _)) hlk hx Bd.returns rfl (Or.inl ⟨rfl, Or.inr (Or.inl rfl), _, rfl⟩) (hb hby at_266) (by first | exact ⟨rfl, N783⟩ | (rw [Fr] at *; exact ⟨rfl, by simpa using N783⟩)) (by decide) (by decide)
                  · refine own_go (T' := T734) (g' := (mkF m 223 #[iv x0, iv x1, iv x2, iv la, iv lb, iv w630, iv (own_chr x0 (0 : Int32)), iv (own_chr x0 (8 : Int32)), iv (own_chr x0 (16 : Int32)), iv (own_chr w630 (0 : Int32)), iv (own_chr w630 (8 : Int32)), iv (own_chr w630 (16 : Int32)), rv s_641, rv s_646, rv b660, iv (((x2.toUInt32 >>> ((5 : Int32) &&& 31).toUInt32).toInt32) &&& (3 : Int32)), rv b712, .unset] [])) (fun t k => XS.icmpNo X734.here hx rfl (hb hby at_220) rfl (flt hc781).1 k) ?_
                    refine own_go (T' := T734) (g' := (mkF m 225 #[iv x0, iv x1, iv x2, iv la, iv lb, iv w630, iv (own_chr x0 (0 : Int32)), iv (own_chr x0 (8 : Int32)), iv (own_chr x0 (16 : Int32)), iv (own_chr w630 (0 : Int32)), iv (own_chr w630 (8 : Int32)), iv (own_chr w630 (16 : Int32)), rv s_641, rv s_646, rv b660, iv (((x2.toUInt32 >>> ((5 : Int32) &&& 31).toUInt32).toInt32) &&& (3 : Int32)), rv b712, .unset] [(.int (own_chr x0 (16 : Int32)))])) (fun t k => XS.iload X734.here hx rfl (hb hby at_223) rfl k) ?_
                    refine own_go (T' := T734) (g' := (mkF m 227 #[iv x0, iv x1, iv x2, iv la, iv lb, iv w630, iv (own_chr x0 (0 : Int32)), iv (own_chr x0 (8 : Int32)), iv (own_chr x0 (16 : Int32)), iv (own_chr w630 (0 : Int32)), iv (own_chr w630 (8 : Int32)), iv (own_chr w630 (16 : Int32)), rv s_641, rv s_646, rv b660, iv (((x2.toUInt32 >>> ((5 : Int32) &&& 31).toUInt32).toInt32) &&& (3 : Int32)), rv b712, .unset] [(.int (own_chr w630 (16 : Int32))), (.int (own_chr x0 (16 : Int32)))])) (fun t k => XS.iload X734.here hx rfl (hb hby at_225) rfl k) ?_
                    by_cases hc784 : (own_chr x0 (16 : Int32)) = (own_chr w630 (16 : Int32))
                    · refine own_go (T' := T734) (g' := (mkF m 230 #[iv x0, iv x1, iv x2, iv la, iv lb, iv w630, iv (own_chr x0 (0 : Int32)), iv (own_chr x0 (8 : Int32)), iv (own_chr x0 (16 : Int32)), iv (own_chr w630 (0 : Int32)), iv (own_chr w630 (8 : Int32)), iv (own_chr w630 (16 : Int32)), rv s_641, rv s_646, rv b660, iv (((x2.toUInt32 >>> ((5 : Int32) &&& 31).toUInt32).toInt32) &&& (3 : Int32)), rv b712, .unset] [])) (fun t k => XS.icmpNo X734.here hx rfl (hb hby at_227) rfl (teq hc784).2 k) ?_
                      refine own_go (T' := T734) (g' := (mkF m 231 #[iv x0, iv x1, iv x2, iv la, iv lb, iv w630, iv (own_chr x0 (0 : Int32)), iv (own_chr x0 (8 : Int32)), iv (own_chr x0 (16 : Int32)), iv (own_chr w630 (0 : Int32)), iv (own_chr w630 (8 : Int32)), iv (own_chr w630 (16 : Int32)), rv s_641, rv s_646, rv b660, iv (((x2.toUInt32 >>> ((5 : Int32) &&& 31).toUInt32).toInt32) &&& (3 : Int32)), rv b712, .unset] [(.int (1 : Int32))])) (fun t k => XS.iconst X734.here hx rfl (hb hby at_230) k) ?_
                      refine own_go (T' := T734) (g' := (mkF m 235 #[iv x0, iv x1, iv x2, iv la, iv lb, iv w630, iv (own_chr x0 (0 : Int32)), iv (own_chr x0 (8 : Int32)), iv (own_chr x0 (16 : Int32)), iv (own_chr w630 (0 : Int32)), iv (own_chr w630 (8 : Int32)), iv (own_chr w630 (16 : Int32)), rv s_641, rv s_646, rv b660, iv (((x2.toUInt32 >>> ((5 : Int32) &&& 31).toUInt32).toInt32) &&& (3 : Int32)), rv b712, .unset] [(.int (1 : Int32))])) (fun t k => XS.goto X734.here hx rfl (pc0 := 231) (pc' := 235) rfl (hb hby at_231) (by decide) (by decide) k) ?_
                      refine own_go (T' := T734) (g' := (mkF m 237 #[iv x0, iv x1, iv x2, iv la, iv lb, iv w630, iv (own_chr x0 (0 : Int32)), iv (own_chr x0 (8 : Int32)), iv (own_chr x0 (16 : Int32)), iv (own_chr w630 (0 : Int32)), iv (own_chr w630 (8 : Int32)), iv (own_chr w630 (16 : Int32)), rv s_641, rv s_646, rv b660, iv (((x2.toUInt32 >>> ((5 : Int32) &&& 31).toUInt32).toInt32) &&& (3 : Int32)), rv b712, iv (1 : Int32)] [])) (fun t k => XS.istore X734.here hx rfl (hb hby at_235) rfl (l' := #[iv x0, iv x1, iv x2, iv la, iv lb, iv w630, iv (own_chr x0 (0 : Int32)), iv (own_chr x0 (8 : Int32)), iv (own_chr x0 (16 : Int32)), iv (own_chr w630 (0 : Int32)), iv (own_chr w630 (8 : Int32)), iv (own_chr w630 (16 : Int32)), rv s_641, rv s_646, rv b660, iv (((x2.toUInt32 >>> ((5 : Int32) &&& 31).toUInt32).toInt32) &&& (3 : Int32)), rv b712, iv (1 : Int32)]) rfl k) ?_
                      refine own_go (T' := T734) (g' := (mkF m 239 #[iv x0, iv x1, iv x2, iv la, iv lb, iv w630, iv (own_chr x0 (0 : Int32)), iv (own_chr x0 (8 : Int32)), iv (own_chr x0 (16 : Int32)), iv (own_chr w630 (0 : Int32)), iv (own_chr w630 (8 : Int32)), iv (own_chr w630 (16 : Int32)), rv s_641, rv s_646, rv b660, iv (((x2.toUInt32 >>> ((5 : Int32) &&& 31).toUInt32).toInt32) &&& (3 : Int32)), rv b712, iv (1 : Int32)] [(.ref b660)])) (fun t k => XS.aload X734.here hx rfl (hb hby at_237) rfl rfl k) ?_
                      refine own_go (T' := T734) (g' := (mkF m 241 #[iv x0, iv x1, iv x2, iv la, iv lb, iv w630, iv (own_chr x0 (0 : Int32)), iv (own_chr x0 (8 : Int32)), iv (own_chr x0 (16 : Int32)), iv (own_chr w630 (0 : Int32)), iv (own_chr w630 (8 : Int32)), iv (own_chr w630 (16 : Int32)), rv s_641, rv s_646, rv b660, iv (((x2.toUInt32 >>> ((5 : Int32) &&& 31).toUInt32).toInt32) &&& (3 : Int32)), rv b712, iv (1 : Int32)] [(.ref b712), (.ref b660)])) (fun t k => XS.aload X734.here hx rfl (hb hby at_239) rfl rfl k) ?_
                      obtain ⟨cq785, kq785, q785a, q785b, q785c⟩ := isOf hZ rfl c758
                      obtain ⟨_, _, ⟨T785, L785, k785, n785⟩, -, X785, ⟨Lc785, hQ785, l785, y785, z785⟩, st785⟩ := X734.virtualBack hx (y := (⟨"com/example/events_in_order/eventsinorder/model/Topic", "equals", "(Ljava/lang/Object;)Z"⟩ : MethodName)) (z := (⟨"com/example/events_in_order/eventsinorder/model/Topic", "equals", "(Ljava/lang/Object;)Z"⟩ : MethodName)) hown (mvT hZ (hw _ (List.mem_of_getElem? (i := 125) rfl))) (mvT hZ (hw _ (List.mem_of_getElem? (i := 126) rfl))) (notFace_of_selects (args := #[]) (mvT hZ (hw _ (List.mem_of_getElem? (i := 128) rfl)))) (mvT hZ (hw _ (List.mem_of_getElem? (i := 128) rfl))) (mvT hZ (hw _ (List.mem_of_getElem? (i := 127) rfl))) (by decide) (backOf (W := 0) (own_rtt l Z a0 hw [] b660 b712 s_641 s_646 b_641 b_646 k_641 k_646 (own_ln la) (own_ln lb) cp (own_nm la (own_chr x0 (0 : Int32)) (own_chr x0 (8 : Int32)) (own_chr x0 (16 : Int32))) (own_nm lb (own_chr w630 (0 : Int32)) (own_chr w630 (8 : Int32)) (own_chr w630 (16 : Int32))) T734.heap n0 hz734 e_734 c759 f_734 c739 c740 c741 c748 c749 c750 c742 c751 (own_nm_ok (own_chr_C _ _) (own_chr_C _ _) (own_chr_C _ _)) (own_nm_ok (own_chr_C _ _) (own_chr_C _ _) (own_chr_C _ _)) nq647 c735 hcp) hZ (hw _ (List.mem_of_getElem? (i := 129) rfl)) (hw _ (List.mem_of_getElem? (i := 40) rfl)) (by decide) (by decide)) q785a q785c (g := (mkF m 241 #[iv x0, iv x1, iv x2, iv la, iv lb, iv w630, iv (own_chr x0 (0 : Int32)), iv (own_chr x0 (8 : Int32)), iv (own_chr x0 (16 : Int32)), iv (own_chr w630 (0 : Int32)), iv (own_chr w630 (8 : Int32)), iv (own_chr w630 (16 : Int32)), rv s_641, rv s_646, rv b660, iv (((x2.toUInt32 >>> ((5 : Int32) &&& 31).toUInt32).toInt32) &&& (3 : Int32)), rv b712, iv (1 : Int32)] [(.ref b712), (.ref b660)])) rfl (by rw [hml]; rfl) (Steps.refl _) (argsL := [(.ref b712)]) (rest := []) (lenOf own_pd19 rfl) rfl (by show 2 * 0 + _ ≤ _; exact Nat.le_of_eq rfl) (hb hby at_241) (fun _ _ => ⟨rfl, rfl, (by decide : 14 + 0 ≤ _), (by decide : 70 + 0 ≤ _)⟩)
                      dsimp only [Pt.U, Pt.locs, Pt.cells, Pt.slots] at X785 l785 y785 z785 st785 hQ785
                      subst l785 y785 z785
                      obtain ⟨rfl, rfl, e785⟩ := hQ785
                      have E785q : T785.heap = T734.heap := e785
                      have N785 := Fr.app N734 (Fr.nil n0)
                      refine own_go (T' := T785) (g' := (mkF m 244 #[iv x0, iv x1, iv x2, iv la, iv lb, iv w630, iv (own_chr x0 (0 : Int32)), iv (own_chr x0 (8 : Int32)), iv (own_chr x0 (16 : Int32)), iv (own_chr w630 (0 : Int32)), iv (own_chr w630 (8 : Int32)), iv (own_chr w630 (16 : Int32)), rv s_641, rv s_646, rv b660, iv (((x2.toUInt32 >>> ((5 : Int32) &&& 31).toUInt32).toInt32) &&& (3 : Int32)), rv b712, iv (1 : Int32)] [(.int (own_eqv (own_nm la (own_chr x0 (0 : Int32)) (own_chr x0 (8 : Int32)) (own_chr x0 (16 : Int32))) (own_nm lb (own_chr w630 (0 : Int32)) (own_chr w630 (8 : Int32)) (own_chr w630 (16 : Int32)))))])) (fun t k => st785.trans k) ?_
                      refine own_go (T' := T785) (g' := (mkF m 246 #[iv x0, iv x1, iv x2, iv la, iv lb, iv w630, iv (own_chr x0 (0 : Int32)), iv (own_chr x0 (8 : Int32)), iv (own_chr x0 (16 : Int32)), iv (own_chr w630 (0 : Int32)), iv (own_chr w630 (8 : Int32)), iv (own_chr w630 (16 : Int32)), rv s_641, rv s_646, rv b660, iv (((x2.toUInt32 >>> ((5 : Int32) &&& 31).toUInt32).toInt32) &&& (3 : Int32)), rv b712, iv (1 : Int32)] [(.int (1 : Int32)), (.int (own_eqv (own_nm la (own_chr x0 (0 : Int32)) (own_chr x0 (8 : Int32)) (own_chr x0 (16 : Int32))) (own_nm lb (own_chr w630 (0 : Int32)) (own_chr w630 (8 : Int32)) (own_chr w630 (16 : Int32)))))])) (fun t k => XS.iload X785.here hx rfl (hb hby at_244) rfl k) ?_
                      refine own_go (T' := T785) (g' := (mkF m 249 #[iv x0, iv x1, iv x2, iv la, iv lb, iv w630, iv (own_chr x0 (0 : Int32)), iv (own_chr x0 (8 : Int32)), iv (own_chr x0 (16 : Int32)), iv (own_chr w630 (0 : Int32)), iv (own_chr w630 (8 : Int32)), iv (own_chr w630 (16 : Int32)), rv s_641, rv s_646, rv b660, iv (((x2.toUInt32 >>> ((5 : Int32) &&& 31).toUInt32).toInt32) &&& (3 : Int32)), rv b712, iv (1 : Int32)] [])) (fun t k => XS.icmpNo X785.here hx rfl (hb hby at_246) rfl (teq (((own_key hl_la hl_lb _ _ _ _ _ _).trans ((if_pos hc769).trans ((if_pos hc770).trans ((if_neg hc771).trans ((if_pos hc780).trans ((if_neg hc781).trans (if_pos hc784))))))) : ((own_eqv (own_nm la (own_chr x0 (0 : Int32)) (own_chr x0 (8 : Int32)) (own_chr x0 (16 : Int32))) (own_nm lb (own_chr w630 (0 : Int32)) (own_chr w630 (8 : Int32)) (own_chr w630 (16 : Int32)))) = (1 : Int32)))).2 k) ?_
                      refine own_go (T' := T785) (g' := (mkF m 251 #[iv x0, iv x1, iv x2, iv la, iv lb, iv w630, iv (own_chr x0 (0 : Int32)), iv (own_chr x0 (8 : Int32)), iv (own_chr x0 (16 : Int32)), iv (own_chr w630 (0 : Int32)), iv (own_chr w630 (8 : Int32)), iv (own_chr w630 (16 : Int32)), rv s_641, rv s_646, rv b660, iv (((x2.toUInt32 >>> ((5 : Int32) &&& 31).toUInt32).toInt32) &&& (3 : Int32)), rv b712, iv (1 : Int32)] [(.ref b712)])) (fun t k => XS.aload X785.here hx rfl (hb hby at_249) rfl rfl k) ?_
                      refine own_go (T' := T785) (g' := (mkF m 253 #[iv x0, iv x1, iv x2, iv la, iv lb, iv w630, iv (own_chr x0 (0 : Int32)), iv (own_chr x0 (8 : Int32)), iv (own_chr x0 (16 : Int32)), iv (own_chr w630 (0 : Int32)), iv (own_chr w630 (8 : Int32)), iv (own_chr w630 (16 : Int32)), rv s_641, rv s_646, rv b660, iv (((x2.toUInt32 >>> ((5 : Int32) &&& 31).toUInt32).toInt32) &&& (3 : Int32)), rv b712, iv (1 : Int32)] [(.ref b660), (.ref b712)])) (fun t k => XS.aload X785.here hx rfl (hb hby at_251) rfl rfl k) ?_
                      obtain ⟨cq786, kq786, q786a, q786b, q786c⟩ := isOf hZ E785q e_734
                      obtain ⟨_, _, ⟨T786, L786, k786, n786⟩, -, X786, ⟨Lc786, hQ786, l786, y786, z786⟩, st786⟩ := X785.virtualBack hx (y := (⟨"com/example/events_in_order/eventsinorder/model/Topic", "equals", "(Ljava/lang/Object;)Z"⟩ : MethodName)) (z := (⟨"com/example/events_in_order/eventsinorder/model/Topic", "equals", "(Ljava/lang/Object;)Z"⟩ : MethodName)) hown (mvT hZ (hw _ (List.mem_of_getElem? (i := 125) rfl))) (mvT hZ (hw _ (List.mem_of_getElem? (i := 126) rfl))) (notFace_of_selects (args := #[]) (mvT hZ (hw _ (List.mem_of_getElem? (i := 128) rfl)))) (mvT hZ (hw _ (List.mem_of_getElem? (i := 128) rfl))) (mvT hZ (hw _ (List.mem_of_getElem? (i := 127) rfl))) (by decide) (backOf (W := 0) (own_rtt l Z a0 hw [] b712 b660 s_646 s_641 b_646 b_641 k_646 k_641 (own_ln lb) (own_ln la) cp (own_nm lb (own_chr w630 (0 : Int32)) (own_chr w630 (8 : Int32)) (own_chr w630 (16 : Int32))) (own_nm la (own_chr x0 (0 : Int32)) (own_chr x0 (8 : Int32)) (own_chr x0 (16 : Int32))) T734.heap n0 hz734 c758 f_734 c759 c748 c749 c750 c739 c740 c741 c751 c742 (own_nm_ok (own_chr_C _ _) (own_chr_C _ _) (own_chr_C _ _)) (own_nm_ok (own_chr_C _ _) (own_chr_C _ _) (own_chr_C _ _)) (Ne.symm nq647) c735 hcp) hZ (hw _ (List.mem_of_getElem? (i := 129) rfl)) (hw _ (List.mem_of_getElem? (i := 40) rfl)) (by decide) (by decide)) q786a q786c (g := (mkF m 253 #[iv x0, iv x1, iv x2, iv la, iv lb, iv w630, iv (own_chr x0 (0 : Int32)), iv (own_chr x0 (8 : Int32)), iv (own_chr x0 (16 : Int32)), iv (own_chr w630 (0 : Int32)), iv (own_chr w630 (8 : Int32)), iv (own_chr w630 (16 : Int32)), rv s_641, rv s_646, rv b660, iv (((x2.toUInt32 >>> ((5 : Int32) &&& 31).toUInt32).toInt32) &&& (3 : Int32)), rv b712, iv (1 : Int32)] [(.ref b660), (.ref b712)])) rfl (by rw [hml]; rfl) (Steps.refl _) (argsL := [(.ref b660)]) (rest := []) (lenOf own_pd19 rfl) rfl (by show 2 * 0 + _ ≤ _; exact Nat.le_of_eq rfl) (hb hby at_253) (fun _ _ => ⟨rfl, E785q, (by decide : 14 + 0 ≤ _), (by decide : 70 + 0 ≤ _)⟩)
                      dsimp only [Pt.U, Pt.locs, Pt.cells, Pt.slots] at X786 l786 y786 z786 st786 hQ786
                      subst l786 y786 z786
                      obtain ⟨rfl, rfl, e786⟩ := hQ786
                      have E786q : T786.heap = T734.heap := e786
                      have N786 := Fr.app N785 (Fr.nil n0)
                      refine own_go (T' := T786) (g' := (mkF m 256 #[iv x0, iv x1, iv x2, iv la, iv lb, iv w630, iv (own_chr x0 (0 : Int32)), iv (own_chr x0 (8 : Int32)), iv (own_chr x0 (16 : Int32)), iv (own_chr w630 (0 : Int32)), iv (own_chr w630 (8 : Int32)), iv (own_chr w630 (16 : Int32)), rv s_641, rv s_646, rv b660, iv (((x2.toUInt32 >>> ((5 : Int32) &&& 31).toUInt32).toInt32) &&& (3 : Int32)), rv b712, iv (1 : Int32)] [(.int (own_eqv (own_nm lb (own_chr w630 (0 : Int32)) (own_chr w630 (8 : Int32)) (own_chr w630 (16 : Int32))) (own_nm la (own_chr x0 (0 : Int32)) (own_chr x0 (8 : Int32)) (own_chr x0 (16 : Int32)))))])) (fun t k => st786.trans k) ?_
                      refine own_go (T' := T786) (g' := (mkF m 258 #[iv x0, iv x1, iv x2, iv la, iv lb, iv w630, iv (own_chr x0 (0 : Int32)), iv (own_chr x0 (8 : Int32)), iv (own_chr x0 (16 : Int32)), iv (own_chr w630 (0 : Int32)), iv (own_chr w630 (8 : Int32)), iv (own_chr w630 (16 : Int32)), rv s_641, rv s_646, rv b660, iv (((x2.toUInt32 >>> ((5 : Int32) &&& 31).toUInt32).toInt32) &&& (3 : Int32)), rv b712, iv (1 : Int32)] [(.int (1 : Int32)), (.int (own_eqv (own_nm lb (own_chr w630 (0 : Int32)) (own_chr w630 (8 : Int32)) (own_chr w630 (16 : Int32))) (own_nm la (own_chr x0 (0 : Int32)) (own_chr x0 (8 : Int32)) (own_chr x0 (16 : Int32)))))])) (fun t k => XS.iload X786.here hx rfl (hb hby at_256) rfl k) ?_
                      refine own_go (T' := T786) (g' := (mkF m 261 #[iv x0, iv x1, iv x2, iv la, iv lb, iv w630, iv (own_chr x0 (0 : Int32)), iv (own_chr x0 (8 : Int32)), iv (own_chr x0 (16 : Int32)), iv (own_chr w630 (0 : Int32)), iv (own_chr w630 (8 : Int32)), iv (own_chr w630 (16 : Int32)), rv s_641, rv s_646, rv b660, iv (((x2.toUInt32 >>> ((5 : Int32) &&& 31).toUInt32).toInt32) &&& (3 : Int32)), rv b712, iv (1 : Int32)] [])) (fun t k => XS.icmpNo X786.here hx rfl (hb hby at_258) rfl (teq ((own_eqv_comm _ _).trans ((own_key hl_la hl_lb _ _ _ _ _ _).trans ((if_pos hc769).trans ((if_pos hc770).trans ((if_neg hc771).trans ((if_pos hc780).trans ((if_neg hc781).trans (if_pos hc784))))))) : ((own_eqv (own_nm lb (own_chr w630 (0 : Int32)) (own_chr w630 (8 : Int32)) (own_chr w630 (16 : Int32))) (own_nm la (own_chr x0 (0 : Int32)) (own_chr x0 (8 : Int32)) (own_chr x0 (16 : Int32)))) = (1 : Int32)))).2 k) ?_
                      refine own_go (T' := T786) (g' := (mkF m 262 #[iv x0, iv x1, iv x2, iv la, iv lb, iv w630, iv (own_chr x0 (0 : Int32)), iv (own_chr x0 (8 : Int32)), iv (own_chr x0 (16 : Int32)), iv (own_chr w630 (0 : Int32)), iv (own_chr w630 (8 : Int32)), iv (own_chr w630 (16 : Int32)), rv s_641, rv s_646, rv b660, iv (((x2.toUInt32 >>> ((5 : Int32) &&& 31).toUInt32).toInt32) &&& (3 : Int32)), rv b712, iv (1 : Int32)] [(.int (1 : Int32))])) (fun t k => XS.iconst X786.here hx rfl (hb hby at_261) k) ?_
                      refine own_go (T' := T786) (g' := (mkF m 266 #[iv x0, iv x1, iv x2, iv la, iv lb, iv w630, iv (own_chr x0 (0 : Int32)), iv (own_chr x0 (8 : Int32)), iv (own_chr x0 (16 : Int32)), iv (own_chr w630 (0 : Int32)), iv (own_chr w630 (8 : Int32)), iv (own_chr w630 (16 : Int32)), rv s_641, rv s_646, rv b660, iv (((x2.toUInt32 >>> ((5 : Int32) &&& 31).toUInt32).toInt32) &&& (3 : Int32)), rv b712, iv (1 : Int32)] [(.int (1 : Int32))])) (fun t k => XS.goto X786.here hx rfl (pc0 := 262) (pc' := 266) rfl (hb hby at_262) (by decide) (by decide) k) ?_
                      exact own_retW X786 hS734 (by rw [E786q]; exact (Nat.le_refl _)) hlk hx Bd.returns rfl (Or.inl ⟨rfl, Or.inr (Or.inl rfl), _, rfl⟩) (hb hby at_266) (by first | exact ⟨rfl, N786⟩ | (rw [Fr] at *; exact ⟨rfl, by simpa using N786⟩)) (by decide) (by decide)
                    · refine own_go (T' := T734) (g' := (mkF m 234 #[iv x0, iv x1, iv x2, iv la, iv lb, iv w630, iv (own_chr x0 (0 : Int32)), iv (own_chr x0 (8 : Int32)), iv (own_chr x0 (16 : Int32)), iv (own_chr w630 (0 : Int32)), iv (own_chr w630 (8 : Int32)), iv (own_chr w630 (16 : Int32)), rv s_641, rv s_646, rv b660, iv (((x2.toUInt32 >>> ((5 : Int32) &&& 31).toUInt32).toInt32) &&& (3 : Int32)), rv b712, .unset] [])) (fun t k => XS.icmpYes X734.here hx rfl (pc0 := 227) (pc' := 234) rfl (hb hby at_227) rfl (feq hc784).2 (by decide) (by decide) k) ?_
                      refine own_go (T' := T734) (g' := (mkF m 235 #[iv x0, iv x1, iv x2, iv la, iv lb, iv w630, iv (own_chr x0 (0 : Int32)), iv (own_chr x0 (8 : Int32)), iv (own_chr x0 (16 : Int32)), iv (own_chr w630 (0 : Int32)), iv (own_chr w630 (8 : Int32)), iv (own_chr w630 (16 : Int32)), rv s_641, rv s_646, rv b660, iv (((x2.toUInt32 >>> ((5 : Int32) &&& 31).toUInt32).toInt32) &&& (3 : Int32)), rv b712, .unset] [(.int (0 : Int32))])) (fun t k => XS.iconst X734.here hx rfl (hb hby at_234) k) ?_
                      refine own_go (T' := T734) (g' := (mkF m 237 #[iv x0, iv x1, iv x2, iv la, iv lb, iv w630, iv (own_chr x0 (0 : Int32)), iv (own_chr x0 (8 : Int32)), iv (own_chr x0 (16 : Int32)), iv (own_chr w630 (0 : Int32)), iv (own_chr w630 (8 : Int32)), iv (own_chr w630 (16 : Int32)), rv s_641, rv s_646, rv b660, iv (((x2.toUInt32 >>> ((5 : Int32) &&& 31).toUInt32).toInt32) &&& (3 : Int32)), rv b712, iv (0 : Int32)] [])) (fun t k => XS.istore X734.here hx rfl (hb hby at_235) rfl (l' := #[iv x0, iv x1, iv x2, iv la, iv lb, iv w630, iv (own_chr x0 (0 : Int32)), iv (own_chr x0 (8 : Int32)), iv (own_chr x0 (16 : Int32)), iv (own_chr w630 (0 : Int32)), iv (own_chr w630 (8 : Int32)), iv (own_chr w630 (16 : Int32)), rv s_641, rv s_646, rv b660, iv (((x2.toUInt32 >>> ((5 : Int32) &&& 31).toUInt32).toInt32) &&& (3 : Int32)), rv b712, iv (0 : Int32)]) rfl k) ?_
                      refine own_go (T' := T734) (g' := (mkF m 239 #[iv x0, iv x1, iv x2, iv la, iv lb, iv w630, iv (own_chr x0 (0 : Int32)), iv (own_chr x0 (8 : Int32)), iv (own_chr x0 (16 : Int32)), iv (own_chr w630 (0 : Int32)), iv (own_chr w630 (8 : Int32)), iv (own_chr w630 (16 : Int32)), rv s_641, rv s_646, rv b660, iv (((x2.toUInt32 >>> ((5 : Int32) &&& 31).toUInt32).toInt32) &&& (3 : Int32)), rv b712, iv (0 : Int32)] [(.ref b660)])) (fun t k => XS.aload X734.here hx rfl (hb hby at_237) rfl rfl k) ?_
                      refine own_go (T' := T734) (g' := (mkF m 241 #[iv x0, iv x1, iv x2, iv la, iv lb, iv w630, iv (own_chr x0 (0 : Int32)), iv (own_chr x0 (8 : Int32)), iv (own_chr x0 (16 : Int32)), iv (own_chr w630 (0 : Int32)), iv (own_chr w630 (8 : Int32)), iv (own_chr w630 (16 : Int32)), rv s_641, rv s_646, rv b660, iv (((x2.toUInt32 >>> ((5 : Int32) &&& 31).toUInt32).toInt32) &&& (3 : Int32)), rv b712, iv (0 : Int32)] [(.ref b712), (.ref b660)])) (fun t k => XS.aload X734.here hx rfl (hb hby at_239) rfl rfl k) ?_
                      obtain ⟨cq787, kq787, q787a, q787b, q787c⟩ := isOf hZ rfl c758
                      obtain ⟨_, _, ⟨T787, L787, k787, n787⟩, -, X787, ⟨Lc787, hQ787, l787, y787, z787⟩, st787⟩ := X734.virtualBack hx (y := (⟨"com/example/events_in_order/eventsinorder/model/Topic", "equals", "(Ljava/lang/Object;)Z"⟩ : MethodName)) (z := (⟨"com/example/events_in_order/eventsinorder/model/Topic", "equals", "(Ljava/lang/Object;)Z"⟩ : MethodName)) hown (mvT hZ (hw _ (List.mem_of_getElem? (i := 125) rfl))) (mvT hZ (hw _ (List.mem_of_getElem? (i := 126) rfl))) (notFace_of_selects (args := #[]) (mvT hZ (hw _ (List.mem_of_getElem? (i := 128) rfl)))) (mvT hZ (hw _ (List.mem_of_getElem? (i := 128) rfl))) (mvT hZ (hw _ (List.mem_of_getElem? (i := 127) rfl))) (by decide) (backOf (W := 0) (own_rtt l Z a0 hw [] b660 b712 s_641 s_646 b_641 b_646 k_641 k_646 (own_ln la) (own_ln lb) cp (own_nm la (own_chr x0 (0 : Int32)) (own_chr x0 (8 : Int32)) (own_chr x0 (16 : Int32))) (own_nm lb (own_chr w630 (0 : Int32)) (own_chr w630 (8 : Int32)) (own_chr w630 (16 : Int32))) T734.heap n0 hz734 e_734 c759 f_734 c739 c740 c741 c748 c749 c750 c742 c751 (own_nm_ok (own_chr_C _ _) (own_chr_C _ _) (own_chr_C _ _)) (own_nm_ok (own_chr_C _ _) (own_chr_C _ _) (own_chr_C _ _)) nq647 c735 hcp) hZ (hw _ (List.mem_of_getElem? (i := 129) rfl)) (hw _ (List.mem_of_getElem? (i := 40) rfl)) (by decide) (by decide)) q787a q787c (g := (mkF m 241 #[iv x0, iv x1, iv x2, iv la, iv lb, iv w630, iv (own_chr x0 (0 : Int32)), iv (own_chr x0 (8 : Int32)), iv (own_chr x0 (16 : Int32)), iv (own_chr w630 (0 : Int32)), iv (own_chr w630 (8 : Int32)), iv (own_chr w630 (16 : Int32)), rv s_641, rv s_646, rv b660, iv (((x2.toUInt32 >>> ((5 : Int32) &&& 31).toUInt32).toInt32) &&& (3 : Int32)), rv b712, iv (0 : Int32)] [(.ref b712), (.ref b660)])) rfl (by rw [hml]; rfl) (Steps.refl _) (argsL := [(.ref b712)]) (rest := []) (lenOf own_pd19 rfl) rfl (by show 2 * 0 + _ ≤ _; exact Nat.le_of_eq rfl) (hb hby at_241) (fun _ _ => ⟨rfl, rfl, (by decide : 14 + 0 ≤ _), (by decide : 70 + 0 ≤ _)⟩)
                      dsimp only [Pt.U, Pt.locs, Pt.cells, Pt.slots] at X787 l787 y787 z787 st787 hQ787
                      subst l787 y787 z787
                      obtain ⟨rfl, rfl, e787⟩ := hQ787
                      have E787q : T787.heap = T734.heap := e787
                      have N787 := Fr.app N734 (Fr.nil n0)
                      refine own_go (T' := T787) (g' := (mkF m 244 #[iv x0, iv x1, iv x2, iv la, iv lb, iv w630, iv (own_chr x0 (0 : Int32)), iv (own_chr x0 (8 : Int32)), iv (own_chr x0 (16 : Int32)), iv (own_chr w630 (0 : Int32)), iv (own_chr w630 (8 : Int32)), iv (own_chr w630 (16 : Int32)), rv s_641, rv s_646, rv b660, iv (((x2.toUInt32 >>> ((5 : Int32) &&& 31).toUInt32).toInt32) &&& (3 : Int32)), rv b712, iv (0 : Int32)] [(.int (own_eqv (own_nm la (own_chr x0 (0 : Int32)) (own_chr x0 (8 : Int32)) (own_chr x0 (16 : Int32))) (own_nm lb (own_chr w630 (0 : Int32)) (own_chr w630 (8 : Int32)) (own_chr w630 (16 : Int32)))))])) (fun t k => st787.trans k) ?_
                      refine own_go (T' := T787) (g' := (mkF m 246 #[iv x0, iv x1, iv x2, iv la, iv lb, iv w630, iv (own_chr x0 (0 : Int32)), iv (own_chr x0 (8 : Int32)), iv (own_chr x0 (16 : Int32)), iv (own_chr w630 (0 : Int32)), iv (own_chr w630 (8 : Int32)), iv (own_chr w630 (16 : Int32)), rv s_641, rv s_646, rv b660, iv (((x2.toUInt32 >>> ((5 : Int32) &&& 31).toUInt32).toInt32) &&& (3 : Int32)), rv b712, iv (0 : Int32)] [(.int (0 : Int32)), (.int (own_eqv (own_nm la (own_chr x0 (0 : Int32)) (own_chr x0 (8 : Int32)) (own_chr x0 (16 : Int32))) (own_nm lb (own_chr w630 (0 : Int32)) (own_chr w630 (8 : Int32)) (own_chr w630 (16 : Int32)))))])) (fun t k => XS.iload X787.here hx rfl (hb hby at_244) rfl k) ?_
                      refine own_go (T' := T787) (g' := (mkF m 249 #[iv x0, iv x1, iv x2, iv la, iv lb, iv w630, iv (own_chr x0 (0 : Int32)), iv (own_chr x0 (8 : Int32)), iv (own_chr x0 (16 : Int32)), iv (own_chr w630 (0 : Int32)), iv (own_chr w630 (8 : Int32)), iv (own_chr w630 (16 : Int32)), rv s_641, rv s_646, rv b660, iv (((x2.toUInt32 >>> ((5 : Int32) &&& 31).toUInt32).toInt32) &&& (3 : Int32)), rv b712, iv (0 : Int32)] [])) (fun t k => XS.icmpNo X787.here hx rfl (hb hby at_246) rfl (teq (((own_key hl_la hl_lb _ _ _ _ _ _).trans ((if_pos hc769).trans ((if_pos hc770).trans ((if_neg hc771).trans ((if_pos hc780).trans ((if_neg hc781).trans (if_neg hc784))))))) : ((own_eqv (own_nm la (own_chr x0 (0 : Int32)) (own_chr x0 (8 : Int32)) (own_chr x0 (16 : Int32))) (own_nm lb (own_chr w630 (0 : Int32)) (own_chr w630 (8 : Int32)) (own_chr w630 (16 : Int32)))) = (0 : Int32)))).2 k) ?_
                      refine own_go (T' := T787) (g' := (mkF m 251 #[iv x0, iv x1, iv x2, iv la, iv lb, iv w630, iv (own_chr x0 (0 : Int32)), iv (own_chr x0 (8 : Int32)), iv (own_chr x0 (16 : Int32)), iv (own_chr w630 (0 : Int32)), iv (own_chr w630 (8 : Int32)), iv (own_chr w630 (16 : Int32)), rv s_641, rv s_646, rv b660, iv (((x2.toUInt32 >>> ((5 : Int32) &&& 31).toUInt32).toInt32) &&& (3 : Int32)), rv b712, iv (0 : Int32)] [(.ref b712)])) (fun t k => XS.aload X787.here hx rfl (hb hby at_249) rfl rfl k) ?_
                      refine own_go (T' := T787) (g' := (mkF m 253 #[iv x0, iv x1, iv x2, iv la, iv lb, iv w630, iv (own_chr x0 (0 : Int32)), iv (own_chr x0 (8 : Int32)), iv (own_chr x0 (16 : Int32)), iv (own_chr w630 (0 : Int32)), iv (own_chr w630 (8 : Int32)), iv (own_chr w630 (16 : Int32)), rv s_641, rv s_646, rv b660, iv (((x2.toUInt32 >>> ((5 : Int32) &&& 31).toUInt32).toInt32) &&& (3 : Int32)), rv b712, iv (0 : Int32)] [(.ref b660), (.ref b712)])) (fun t k => XS.aload X787.here hx rfl (hb hby at_251) rfl rfl k) ?_
                      obtain ⟨cq788, kq788, q788a, q788b, q788c⟩ := isOf hZ E787q e_734
                      obtain ⟨_, _, ⟨T788, L788, k788, n788⟩, -, X788, ⟨Lc788, hQ788, l788, y788, z788⟩, st788⟩ := X787.virtualBack hx (y := (⟨"com/example/events_in_order/eventsinorder/model/Topic", "equals", "(Ljava/lang/Object;)Z"⟩ : MethodName)) (z := (⟨"com/example/events_in_order/eventsinorder/model/Topic", "equals", "(Ljava/lang/Object;)Z"⟩ : MethodName)) hown (mvT hZ (hw _ (List.mem_of_getElem? (i := 125) rfl))) (mvT hZ (hw _ (List.mem_of_getElem? (i := 126) rfl))) (notFace_of_selects (args := #[]) (mvT hZ (hw _ (List.mem_of_getElem? (i := 128) rfl)))) (mvT hZ (hw _ (List.mem_of_getElem? (i := 128) rfl))) (mvT hZ (hw _ (List.mem_of_getElem? (i := 127) rfl))) (by decide) (backOf (W := 0) (own_rtt l Z a0 hw [] b712 b660 s_646 s_641 b_646 b_641 k_646 k_641 (own_ln lb) (own_ln la) cp (own_nm lb (own_chr w630 (0 : Int32)) (own_chr w630 (8 : Int32)) (own_chr w630 (16 : Int32))) (own_nm la (own_chr x0 (0 : Int32)) (own_chr x0 (8 : Int32)) (own_chr x0 (16 : Int32))) T734.heap n0 hz734 c758 f_734 c759 c748 c749 c750 c739 c740 c741 c751 c742 (own_nm_ok (own_chr_C _ _) (own_chr_C _ _) (own_chr_C _ _)) (own_nm_ok (own_chr_C _ _) (own_chr_C _ _) (own_chr_C _ _)) (Ne.symm nq647) c735 hcp) hZ (hw _ (List.mem_of_getElem? (i := 129) rfl)) (hw _ (List.mem_of_getElem? (i := 40) rfl)) (by decide) (by decide)) q788a q788c (g := (mkF m 253 #[iv x0, iv x1, iv x2, iv la, iv lb, iv w630, iv (own_chr x0 (0 : Int32)), iv (own_chr x0 (8 : Int32)), iv (own_chr x0 (16 : Int32)), iv (own_chr w630 (0 : Int32)), iv (own_chr w630 (8 : Int32)), iv (own_chr w630 (16 : Int32)), rv s_641, rv s_646, rv b660, iv (((x2.toUInt32 >>> ((5 : Int32) &&& 31).toUInt32).toInt32) &&& (3 : Int32)), rv b712, iv (0 : Int32)] [(.ref b660), (.ref b712)])) rfl (by rw [hml]; rfl) (Steps.refl _) (argsL := [(.ref b660)]) (rest := []) (lenOf own_pd19 rfl) rfl (by show 2 * 0 + _ ≤ _; exact Nat.le_of_eq rfl) (hb hby at_253) (fun _ _ => ⟨rfl, E787q, (by decide : 14 + 0 ≤ _), (by decide : 70 + 0 ≤ _)⟩)
                      dsimp only [Pt.U, Pt.locs, Pt.cells, Pt.slots] at X788 l788 y788 z788 st788 hQ788
                      subst l788 y788 z788
                      obtain ⟨rfl, rfl, e788⟩ := hQ788
                      have E788q : T788.heap = T734.heap := e788
                      have N788 := Fr.app N787 (Fr.nil n0)
                      refine own_go (T' := T788) (g' := (mkF m 256 #[iv x0, iv x1, iv x2, iv la, iv lb, iv w630, iv (own_chr x0 (0 : Int32)), iv (own_chr x0 (8 : Int32)), iv (own_chr x0 (16 : Int32)), iv (own_chr w630 (0 : Int32)), iv (own_chr w630 (8 : Int32)), iv (own_chr w630 (16 : Int32)), rv s_641, rv s_646, rv b660, iv (((x2.toUInt32 >>> ((5 : Int32) &&& 31).toUInt32).toInt32) &&& (3 : Int32)), rv b712, iv (0 : Int32)] [(.int (own_eqv (own_nm lb (own_chr w630 (0 : Int32)) (own_chr w630 (8 : Int32)) (own_chr w630 (16 : Int32))) (own_nm la (own_chr x0 (0 : Int32)) (own_chr x0 (8 : Int32)) (own_chr x0 (16 : Int32)))))])) (fun t k => st788.trans k) ?_
                      refine own_go (T' := T788) (g' := (mkF m 258 #[iv x0, iv x1, iv x2, iv la, iv lb, iv w630, iv (own_chr x0 (0 : Int32)), iv (own_chr x0 (8 : Int32)), iv (own_chr x0 (16 : Int32)), iv (own_chr w630 (0 : Int32)), iv (own_chr w630 (8 : Int32)), iv (own_chr w630 (16 : Int32)), rv s_641, rv s_646, rv b660, iv (((x2.toUInt32 >>> ((5 : Int32) &&& 31).toUInt32).toInt32) &&& (3 : Int32)), rv b712, iv (0 : Int32)] [(.int (0 : Int32)), (.int (own_eqv (own_nm lb (own_chr w630 (0 : Int32)) (own_chr w630 (8 : Int32)) (own_chr w630 (16 : Int32))) (own_nm la (own_chr x0 (0 : Int32)) (own_chr x0 (8 : Int32)) (own_chr x0 (16 : Int32)))))])) (fun t k => XS.iload X788.here hx rfl (hb hby at_256) rfl k) ?_
                      refine own_go (T' := T788) (g' := (mkF m 261 #[iv x0, iv x1, iv x2, iv la, iv lb, iv w630, iv (own_chr x0 (0 : Int32)), iv (own_chr x0 (8 : Int32)), iv (own_chr x0 (16 : Int32)), iv (own_chr w630 (0 : Int32)), iv (own_chr w630 (8 : Int32)), iv (own_chr w630 (16 : Int32)), rv s_641, rv s_646, rv b660, iv (((x2.toUInt32 >>> ((5 : Int32) &&& 31).toUInt32).toInt32) &&& (3 : Int32)), rv b712, iv (0 : Int32)] [])) (fun t k => XS.icmpNo X788.here hx rfl (hb hby at_258) rfl (teq ((own_eqv_comm _ _).trans ((own_key hl_la hl_lb _ _ _ _ _ _).trans ((if_pos hc769).trans ((if_pos hc770).trans ((if_neg hc771).trans ((if_pos hc780).trans ((if_neg hc781).trans (if_neg hc784))))))) : ((own_eqv (own_nm lb (own_chr w630 (0 : Int32)) (own_chr w630 (8 : Int32)) (own_chr w630 (16 : Int32))) (own_nm la (own_chr x0 (0 : Int32)) (own_chr x0 (8 : Int32)) (own_chr x0 (16 : Int32)))) = (0 : Int32)))).2 k) ?_
                      refine own_go (T' := T788) (g' := (mkF m 262 #[iv x0, iv x1, iv x2, iv la, iv lb, iv w630, iv (own_chr x0 (0 : Int32)), iv (own_chr x0 (8 : Int32)), iv (own_chr x0 (16 : Int32)), iv (own_chr w630 (0 : Int32)), iv (own_chr w630 (8 : Int32)), iv (own_chr w630 (16 : Int32)), rv s_641, rv s_646, rv b660, iv (((x2.toUInt32 >>> ((5 : Int32) &&& 31).toUInt32).toInt32) &&& (3 : Int32)), rv b712, iv (0 : Int32)] [(.int (1 : Int32))])) (fun t k => XS.iconst X788.here hx rfl (hb hby at_261) k) ?_
                      refine own_go (T' := T788) (g' := (mkF m 266 #[iv x0, iv x1, iv x2, iv la, iv lb, iv w630, iv (own_chr x0 (0 : Int32)), iv (own_chr x0 (8 : Int32)), iv (own_chr x0 (16 : Int32)), iv (own_chr w630 (0 : Int32)), iv (own_chr w630 (8 : Int32)), iv (own_chr w630 (16 : Int32)), rv s_641, rv s_646, rv b660, iv (((x2.toUInt32 >>> ((5 : Int32) &&& 31).toUInt32).toInt32) &&& (3 : Int32)), rv b712, iv (0 : Int32)] [(.int (1 : Int32))])) (fun t k => XS.goto X788.here hx rfl (pc0 := 262) (pc' := 266) rfl (hb hby at_262) (by decide) (by decide) k) ?_
                      exact own_retW X788 hS734 (by rw [E788q]; exact (Nat.le_refl _)) hlk hx Bd.returns rfl (Or.inl ⟨rfl, Or.inr (Or.inl rfl), _, rfl⟩) (hb hby at_266) (by first | exact ⟨rfl, N788⟩ | (rw [Fr] at *; exact ⟨rfl, by simpa using N788⟩)) (by decide) (by decide)
                · refine own_go (T' := T734) (g' := (mkF m 234 #[iv x0, iv x1, iv x2, iv la, iv lb, iv w630, iv (own_chr x0 (0 : Int32)), iv (own_chr x0 (8 : Int32)), iv (own_chr x0 (16 : Int32)), iv (own_chr w630 (0 : Int32)), iv (own_chr w630 (8 : Int32)), iv (own_chr w630 (16 : Int32)), rv s_641, rv s_646, rv b660, iv (((x2.toUInt32 >>> ((5 : Int32) &&& 31).toUInt32).toInt32) &&& (3 : Int32)), rv b712, .unset] [])) (fun t k => XS.icmpYes X734.here hx rfl (pc0 := 215) (pc' := 234) rfl (hb hby at_215) rfl (feq hc780).2 (by decide) (by decide) k) ?_
                  refine own_go (T' := T734) (g' := (mkF m 235 #[iv x0, iv x1, iv x2, iv la, iv lb, iv w630, iv (own_chr x0 (0 : Int32)), iv (own_chr x0 (8 : Int32)), iv (own_chr x0 (16 : Int32)), iv (own_chr w630 (0 : Int32)), iv (own_chr w630 (8 : Int32)), iv (own_chr w630 (16 : Int32)), rv s_641, rv s_646, rv b660, iv (((x2.toUInt32 >>> ((5 : Int32) &&& 31).toUInt32).toInt32) &&& (3 : Int32)), rv b712, .unset] [(.int (0 : Int32))])) (fun t k => XS.iconst X734.here hx rfl (hb hby at_234) k) ?_
                  refine own_go (T' := T734) (g' := (mkF m 237 #[iv x0, iv x1, iv x2, iv la, iv lb, iv w630, iv (own_chr x0 (0 : Int32)), iv (own_chr x0 (8 : Int32)), iv (own_chr x0 (16 : Int32)), iv (own_chr w630 (0 : Int32)), iv (own_chr w630 (8 : Int32)), iv (own_chr w630 (16 : Int32)), rv s_641, rv s_646, rv b660, iv (((x2.toUInt32 >>> ((5 : Int32) &&& 31).toUInt32).toInt32) &&& (3 : Int32)), rv b712, iv (0 : Int32)] [])) (fun t k => XS.istore X734.here hx rfl (hb hby at_235) rfl (l' := #[iv x0, iv x1, iv x2, iv la, iv lb, iv w630, iv (own_chr x0 (0 : Int32)), iv (own_chr x0 (8 : Int32)), iv (own_chr x0 (16 : Int32)), iv (own_chr w630 (0 : Int32)), iv (own_chr w630 (8 : Int32)), iv (own_chr w630 (16 : Int32)), rv s_641, rv s_646, rv b660, iv (((x2.toUInt32 >>> ((5 : Int32) &&& 31).toUInt32).toInt32) &&& (3 : Int32)), rv b712, iv (0 : Int32)]) rfl k) ?_
                  refine own_go (T' := T734) (g' := (mkF m 239 #[iv x0, iv x1, iv x2, iv la, iv lb, iv w630, iv (own_chr x0 (0 : Int32)), iv (own_chr x0 (8 : Int32)), iv (own_chr x0 (16 : Int32)), iv (own_chr w630 (0 : Int32)), iv (own_chr w630 (8 : Int32)), iv (own_chr w630 (16 : Int32)), rv s_641, rv s_646, rv b660, iv (((x2.toUInt32 >>> ((5 : Int32) &&& 31).toUInt32).toInt32) &&& (3 : Int32)), rv b712, iv (0 : Int32)] [(.ref b660)])) (fun t k => XS.aload X734.here hx rfl (hb hby at_237) rfl rfl k) ?_
                  refine own_go (T' := T734) (g' := (mkF m 241 #[iv x0, iv x1, iv x2, iv la, iv lb, iv w630, iv (own_chr x0 (0 : Int32)), iv (own_chr x0 (8 : Int32)), iv (own_chr x0 (16 : Int32)), iv (own_chr w630 (0 : Int32)), iv (own_chr w630 (8 : Int32)), iv (own_chr w630 (16 : Int32)), rv s_641, rv s_646, rv b660, iv (((x2.toUInt32 >>> ((5 : Int32) &&& 31).toUInt32).toInt32) &&& (3 : Int32)), rv b712, iv (0 : Int32)] [(.ref b712), (.ref b660)])) (fun t k => XS.aload X734.here hx rfl (hb hby at_239) rfl rfl k) ?_
                  obtain ⟨cq789, kq789, q789a, q789b, q789c⟩ := isOf hZ rfl c758
                  obtain ⟨_, _, ⟨T789, L789, k789, n789⟩, -, X789, ⟨Lc789, hQ789, l789, y789, z789⟩, st789⟩ := X734.virtualBack hx (y := (⟨"com/example/events_in_order/eventsinorder/model/Topic", "equals", "(Ljava/lang/Object;)Z"⟩ : MethodName)) (z := (⟨"com/example/events_in_order/eventsinorder/model/Topic", "equals", "(Ljava/lang/Object;)Z"⟩ : MethodName)) hown (mvT hZ (hw _ (List.mem_of_getElem? (i := 125) rfl))) (mvT hZ (hw _ (List.mem_of_getElem? (i := 126) rfl))) (notFace_of_selects (args := #[]) (mvT hZ (hw _ (List.mem_of_getElem? (i := 128) rfl)))) (mvT hZ (hw _ (List.mem_of_getElem? (i := 128) rfl))) (mvT hZ (hw _ (List.mem_of_getElem? (i := 127) rfl))) (by decide) (backOf (W := 0) (own_rtt l Z a0 hw [] b660 b712 s_641 s_646 b_641 b_646 k_641 k_646 (own_ln la) (own_ln lb) cp (own_nm la (own_chr x0 (0 : Int32)) (own_chr x0 (8 : Int32)) (own_chr x0 (16 : Int32))) (own_nm lb (own_chr w630 (0 : Int32)) (own_chr w630 (8 : Int32)) (own_chr w630 (16 : Int32))) T734.heap n0 hz734 e_734 c759 f_734 c739 c740 c741 c748 c749 c750 c742 c751 (own_nm_ok (own_chr_C _ _) (own_chr_C _ _) (own_chr_C _ _)) (own_nm_ok (own_chr_C _ _) (own_chr_C _ _) (own_chr_C _ _)) nq647 c735 hcp) hZ (hw _ (List.mem_of_getElem? (i := 129) rfl)) (hw _ (List.mem_of_getElem? (i := 40) rfl)) (by decide) (by decide)) q789a q789c (g := (mkF m 241 #[iv x0, iv x1, iv x2, iv la, iv lb, iv w630, iv (own_chr x0 (0 : Int32)), iv (own_chr x0 (8 : Int32)), iv (own_chr x0 (16 : Int32)), iv (own_chr w630 (0 : Int32)), iv (own_chr w630 (8 : Int32)), iv (own_chr w630 (16 : Int32)), rv s_641, rv s_646, rv b660, iv (((x2.toUInt32 >>> ((5 : Int32) &&& 31).toUInt32).toInt32) &&& (3 : Int32)), rv b712, iv (0 : Int32)] [(.ref b712), (.ref b660)])) rfl (by rw [hml]; rfl) (Steps.refl _) (argsL := [(.ref b712)]) (rest := []) (lenOf own_pd19 rfl) rfl (by show 2 * 0 + _ ≤ _; exact Nat.le_of_eq rfl) (hb hby at_241) (fun _ _ => ⟨rfl, rfl, (by decide : 14 + 0 ≤ _), (by decide : 70 + 0 ≤ _)⟩)
                  dsimp only [Pt.U, Pt.locs, Pt.cells, Pt.slots] at X789 l789 y789 z789 st789 hQ789
                  subst l789 y789 z789
                  obtain ⟨rfl, rfl, e789⟩ := hQ789
                  have E789q : T789.heap = T734.heap := e789
                  have N789 := Fr.app N734 (Fr.nil n0)
                  refine own_go (T' := T789) (g' := (mkF m 244 #[iv x0, iv x1, iv x2, iv la, iv lb, iv w630, iv (own_chr x0 (0 : Int32)), iv (own_chr x0 (8 : Int32)), iv (own_chr x0 (16 : Int32)), iv (own_chr w630 (0 : Int32)), iv (own_chr w630 (8 : Int32)), iv (own_chr w630 (16 : Int32)), rv s_641, rv s_646, rv b660, iv (((x2.toUInt32 >>> ((5 : Int32) &&& 31).toUInt32).toInt32) &&& (3 : Int32)), rv b712, iv (0 : Int32)] [(.int (own_eqv (own_nm la (own_chr x0 (0 : Int32)) (own_chr x0 (8 : Int32)) (own_chr x0 (16 : Int32))) (own_nm lb (own_chr w630 (0 : Int32)) (own_chr w630 (8 : Int32)) (own_chr w630 (16 : Int32)))))])) (fun t k => st789.trans k) ?_
                  refine own_go (T' := T789) (g' := (mkF m 246 #[iv x0, iv x1, iv x2, iv la, iv lb, iv w630, iv (own_chr x0 (0 : Int32)), iv (own_chr x0 (8 : Int32)), iv (own_chr x0 (16 : Int32)), iv (own_chr w630 (0 : Int32)), iv (own_chr w630 (8 : Int32)), iv (own_chr w630 (16 : Int32)), rv s_641, rv s_646, rv b660, iv (((x2.toUInt32 >>> ((5 : Int32) &&& 31).toUInt32).toInt32) &&& (3 : Int32)), rv b712, iv (0 : Int32)] [(.int (0 : Int32)), (.int (own_eqv (own_nm la (own_chr x0 (0 : Int32)) (own_chr x0 (8 : Int32)) (own_chr x0 (16 : Int32))) (own_nm lb (own_chr w630 (0 : Int32)) (own_chr w630 (8 : Int32)) (own_chr w630 (16 : Int32)))))])) (fun t k => XS.iload X789.here hx rfl (hb hby at_244) rfl k) ?_
                  refine own_go (T' := T789) (g' := (mkF m 249 #[iv x0, iv x1, iv x2, iv la, iv lb, iv w630, iv (own_chr x0 (0 : Int32)), iv (own_chr x0 (8 : Int32)), iv (own_chr x0 (16 : Int32)), iv (own_chr w630 (0 : Int32)), iv (own_chr w630 (8 : Int32)), iv (own_chr w630 (16 : Int32)), rv s_641, rv s_646, rv b660, iv (((x2.toUInt32 >>> ((5 : Int32) &&& 31).toUInt32).toInt32) &&& (3 : Int32)), rv b712, iv (0 : Int32)] [])) (fun t k => XS.icmpNo X789.here hx rfl (hb hby at_246) rfl (teq (((own_key hl_la hl_lb _ _ _ _ _ _).trans ((if_pos hc769).trans ((if_pos hc770).trans ((if_neg hc771).trans (if_neg hc780))))) : ((own_eqv (own_nm la (own_chr x0 (0 : Int32)) (own_chr x0 (8 : Int32)) (own_chr x0 (16 : Int32))) (own_nm lb (own_chr w630 (0 : Int32)) (own_chr w630 (8 : Int32)) (own_chr w630 (16 : Int32)))) = (0 : Int32)))).2 k) ?_
                  refine own_go (T' := T789) (g' := (mkF m 251 #[iv x0, iv x1, iv x2, iv la, iv lb, iv w630, iv (own_chr x0 (0 : Int32)), iv (own_chr x0 (8 : Int32)), iv (own_chr x0 (16 : Int32)), iv (own_chr w630 (0 : Int32)), iv (own_chr w630 (8 : Int32)), iv (own_chr w630 (16 : Int32)), rv s_641, rv s_646, rv b660, iv (((x2.toUInt32 >>> ((5 : Int32) &&& 31).toUInt32).toInt32) &&& (3 : Int32)), rv b712, iv (0 : Int32)] [(.ref b712)])) (fun t k => XS.aload X789.here hx rfl (hb hby at_249) rfl rfl k) ?_
                  refine own_go (T' := T789) (g' := (mkF m 253 #[iv x0, iv x1, iv x2, iv la, iv lb, iv w630, iv (own_chr x0 (0 : Int32)), iv (own_chr x0 (8 : Int32)), iv (own_chr x0 (16 : Int32)), iv (own_chr w630 (0 : Int32)), iv (own_chr w630 (8 : Int32)), iv (own_chr w630 (16 : Int32)), rv s_641, rv s_646, rv b660, iv (((x2.toUInt32 >>> ((5 : Int32) &&& 31).toUInt32).toInt32) &&& (3 : Int32)), rv b712, iv (0 : Int32)] [(.ref b660), (.ref b712)])) (fun t k => XS.aload X789.here hx rfl (hb hby at_251) rfl rfl k) ?_
                  obtain ⟨cq790, kq790, q790a, q790b, q790c⟩ := isOf hZ E789q e_734
                  obtain ⟨_, _, ⟨T790, L790, k790, n790⟩, -, X790, ⟨Lc790, hQ790, l790, y790, z790⟩, st790⟩ := X789.virtualBack hx (y := (⟨"com/example/events_in_order/eventsinorder/model/Topic", "equals", "(Ljava/lang/Object;)Z"⟩ : MethodName)) (z := (⟨"com/example/events_in_order/eventsinorder/model/Topic", "equals", "(Ljava/lang/Object;)Z"⟩ : MethodName)) hown (mvT hZ (hw _ (List.mem_of_getElem? (i := 125) rfl))) (mvT hZ (hw _ (List.mem_of_getElem? (i := 126) rfl))) (notFace_of_selects (args := #[]) (mvT hZ (hw _ (List.mem_of_getElem? (i := 128) rfl)))) (mvT hZ (hw _ (List.mem_of_getElem? (i := 128) rfl))) (mvT hZ (hw _ (List.mem_of_getElem? (i := 127) rfl))) (by decide) (backOf (W := 0) (own_rtt l Z a0 hw [] b712 b660 s_646 s_641 b_646 b_641 k_646 k_641 (own_ln lb) (own_ln la) cp (own_nm lb (own_chr w630 (0 : Int32)) (own_chr w630 (8 : Int32)) (own_chr w630 (16 : Int32))) (own_nm la (own_chr x0 (0 : Int32)) (own_chr x0 (8 : Int32)) (own_chr x0 (16 : Int32))) T734.heap n0 hz734 c758 f_734 c759 c748 c749 c750 c739 c740 c741 c751 c742 (own_nm_ok (own_chr_C _ _) (own_chr_C _ _) (own_chr_C _ _)) (own_nm_ok (own_chr_C _ _) (own_chr_C _ _) (own_chr_C _ _)) (Ne.symm nq647) c735 hcp) hZ (hw _ (List.mem_of_getElem? (i := 129) rfl)) (hw _ (List.mem_of_getElem? (i := 40) rfl)) (by decide) (by decide)) q790a q790c (g := (mkF m 253 #[iv x0, iv x1, iv x2, iv la, iv lb, iv w630, iv (own_chr x0 (0 : Int32)), iv (own_chr x0 (8 : Int32)), iv (own_chr x0 (16 : Int32)), iv (own_chr w630 (0 : Int32)), iv (own_chr w630 (8 : Int32)), iv (own_chr w630 (16 : Int32)), rv s_641, rv s_646, rv b660, iv (((x2.toUInt32 >>> ((5 : Int32) &&& 31).toUInt32).toInt32) &&& (3 : Int32)), rv b712, iv (0 : Int32)] [(.ref b660), (.ref b712)])) rfl (by rw [hml]; rfl) (Steps.refl _) (argsL := [(.ref b660)]) (rest := []) (lenOf own_pd19 rfl) rfl (by show 2 * 0 + _ ≤ _; exact Nat.le_of_eq rfl) (hb hby at_253) (fun _ _ => ⟨rfl, E789q, (by decide : 14 + 0 ≤ _), (by decide : 70 + 0 ≤ _)⟩)
                  dsimp only [Pt.U, Pt.locs, Pt.cells, Pt.slots] at X790 l790 y790 z790 st790 hQ790
                  subst l790 y790 z790
                  obtain ⟨rfl, rfl, e790⟩ := hQ790
                  have E790q : T790.heap = T734.heap := e790
                  have N790 := Fr.app N789 (Fr.nil n0)
                  refine own_go (T' := T790) (g' := (mkF m 256 #[iv x0, iv x1, iv x2, iv la, iv lb, iv w630, iv (own_chr x0 (0 : Int32)), iv (own_chr x0 (8 : Int32)), iv (own_chr x0 (16 : Int32)), iv (own_chr w630 (0 : Int32)), iv (own_chr w630 (8 : Int32)), iv (own_chr w630 (16 : Int32)), rv s_641, rv s_646, rv b660, iv (((x2.toUInt32 >>> ((5 : Int32) &&& 31).toUInt32).toInt32) &&& (3 : Int32)), rv b712, iv (0 : Int32)] [(.int (own_eqv (own_nm lb (own_chr w630 (0 : Int32)) (own_chr w630 (8 : Int32)) (own_chr w630 (16 : Int32))) (own_nm la (own_chr x0 (0 : Int32)) (own_chr x0 (8 : Int32)) (own_chr x0 (16 : Int32)))))])) (fun t k => st790.trans k) ?_
                  refine own_go (T' := T790) (g' := (mkF m 258 #[iv x0, iv x1, iv x2, iv la, iv lb, iv w630, iv (own_chr x0 (0 : Int32)), iv (own_chr x0 (8 : Int32)), iv (own_chr x0 (16 : Int32)), iv (own_chr w630 (0 : Int32)), iv (own_chr w630 (8 : Int32)), iv (own_chr w630 (16 : Int32)), rv s_641, rv s_646, rv b660, iv (((x2.toUInt32 >>> ((5 : Int32) &&& 31).toUInt32).toInt32) &&& (3 : Int32)), rv b712, iv (0 : Int32)] [(.int (0 : Int32)), (.int (own_eqv (own_nm lb (own_chr w630 (0 : Int32)) (own_chr w630 (8 : Int32)) (own_chr w630 (16 : Int32))) (own_nm la (own_chr x0 (0 : Int32)) (own_chr x0 (8 : Int32)) (own_chr x0 (16 : Int32)))))])) (fun t k => XS.iload X790.here hx rfl (hb hby at_256) rfl k) ?_
                  refine own_go (T' := T790) (g' := (mkF m 261 #[iv x0, iv x1, iv x2, iv la, iv lb, iv w630, iv (own_chr x0 (0 : Int32)), iv (own_chr x0 (8 : Int32)), iv (own_chr x0 (16 : Int32)), iv (own_chr w630 (0 : Int32)), iv (own_chr w630 (8 : Int32)), iv (own_chr w630 (16 : Int32)), rv s_641, rv s_646, rv b660, iv (((x2.toUInt32 >>> ((5 : Int32) &&& 31).toUInt32).toInt32) &&& (3 : Int32)), rv b712, iv (0 : Int32)] [])) (fun t k => XS.icmpNo X790.here hx rfl (hb hby at_258) rfl (teq ((own_eqv_comm _ _).trans ((own_key hl_la hl_lb _ _ _ _ _ _).trans ((if_pos hc769).trans ((if_pos hc770).trans ((if_neg hc771).trans (if_neg hc780))))) : ((own_eqv (own_nm lb (own_chr w630 (0 : Int32)) (own_chr w630 (8 : Int32)) (own_chr w630 (16 : Int32))) (own_nm la (own_chr x0 (0 : Int32)) (own_chr x0 (8 : Int32)) (own_chr x0 (16 : Int32)))) = (0 : Int32)))).2 k) ?_
                  refine own_go (T' := T790) (g' := (mkF m 262 #[iv x0, iv x1, iv x2, iv la, iv lb, iv w630, iv (own_chr x0 (0 : Int32)), iv (own_chr x0 (8 : Int32)), iv (own_chr x0 (16 : Int32)), iv (own_chr w630 (0 : Int32)), iv (own_chr w630 (8 : Int32)), iv (own_chr w630 (16 : Int32)), rv s_641, rv s_646, rv b660, iv (((x2.toUInt32 >>> ((5 : Int32) &&& 31).toUInt32).toInt32) &&& (3 : Int32)), rv b712, iv (0 : Int32)] [(.int (1 : Int32))])) (fun t k => XS.iconst X790.here hx rfl (hb hby at_261) k) ?_
                  refine own_go (T' := T790) (g' := (mkF m 266 #[iv x0, iv x1, iv x2, iv la, iv lb, iv w630, iv (own_chr x0 (0 : Int32)), iv (own_chr x0 (8 : Int32)), iv (own_chr x0 (16 : Int32)), iv (own_chr w630 (0 : Int32)), iv (own_chr w630 (8 : Int32)), iv (own_chr w630 (16 : Int32)), rv s_641, rv s_646, rv b660, iv (((x2.toUInt32 >>> ((5 : Int32) &&& 31).toUInt32).toInt32) &&& (3 : Int32)), rv b712, iv (0 : Int32)] [(.int (1 : Int32))])) (fun t k => XS.goto X790.here hx rfl (pc0 := 262) (pc' := 266) rfl (hb hby at_262) (by decide) (by decide) k) ?_
                  exact own_retW X790 hS734 (by rw [E790q]; exact (Nat.le_refl _)) hlk hx Bd.returns rfl (Or.inl ⟨rfl, Or.inr (Or.inl rfl), _, rfl⟩) (hb hby at_266) (by first | exact ⟨rfl, N790⟩ | (rw [Fr] at *; exact ⟨rfl, by simpa using N790⟩)) (by decide) (by decide)
            · refine own_go (T' := T734) (g' := (mkF m 234 #[iv x0, iv x1, iv x2, iv la, iv lb, iv w630, iv (own_chr x0 (0 : Int32)), iv (own_chr x0 (8 : Int32)), iv (own_chr x0 (16 : Int32)), iv (own_chr w630 (0 : Int32)), iv (own_chr w630 (8 : Int32)), iv (own_chr w630 (16 : Int32)), rv s_641, rv s_646, rv b660, iv (((x2.toUInt32 >>> ((5 : Int32) &&& 31).toUInt32).toInt32) &&& (3 : Int32)), rv b712, .unset] [])) (fun t k => XS.icmpYes X734.here hx rfl (pc0 := 203) (pc' := 234) rfl (hb hby at_203) rfl (feq hc770).2 (by decide) (by decide) k) ?_
              refine own_go (T' := T734) (g' := (mkF m 235 #[iv x0, iv x1, iv x2, iv la, iv lb, iv w630, iv (own_chr x0 (0 : Int32)), iv (own_chr x0 (8 : Int32)), iv (own_chr x0 (16 : Int32)), iv (own_chr w630 (0 : Int32)), iv (own_chr w630 (8 : Int32)), iv (own_chr w630 (16 : Int32)), rv s_641, rv s_646, rv b660, iv (((x2.toUInt32 >>> ((5 : Int32) &&& 31).toUInt32).toInt32) &&& (3 : Int32)), rv b712, .unset] [(.int (0 : Int32))])) (fun t k => XS.iconst X734.here hx rfl (hb hby at_234) k) ?_
              refine own_go (T' := T734) (g' := (mkF m 237 #[iv x0, iv x1, iv x2, iv la, iv lb, iv w630, iv (own_chr x0 (0 : Int32)), iv (own_chr x0 (8 : Int32)), iv (own_chr x0 (16 : Int32)), iv (own_chr w630 (0 : Int32)), iv (own_chr w630 (8 : Int32)), iv (own_chr w630 (16 : Int32)), rv s_641, rv s_646, rv b660, iv (((x2.toUInt32 >>> ((5 : Int32) &&& 31).toUInt32).toInt32) &&& (3 : Int32)), rv b712, iv (0 : Int32)] [])) (fun t k => XS.istore X734.here hx rfl (hb hby at_235) rfl (l' := #[iv x0, iv x1, iv x2, iv la, iv lb, iv w630, iv (own_chr x0 (0 : Int32)), iv (own_chr x0 (8 : Int32)), iv (own_chr x0 (16 : Int32)), iv (own_chr w630 (0 : Int32)), iv (own_chr w630 (8 : Int32)), iv (own_chr w630 (16 : Int32)), rv s_641, rv s_646, rv b660, iv (((x2.toUInt32 >>> ((5 : Int32) &&& 31).toUInt32).toInt32) &&& (3 : Int32)), rv b712, iv (0 : Int32)]) rfl k) ?_
              refine own_go (T' := T734) (g' := (mkF m 239 #[iv x0, iv x1, iv x2, iv la, iv lb, iv w630, iv (own_chr x0 (0 : Int32)), iv (own_chr x0 (8 : Int32)), iv (own_chr x0 (16 : Int32)), iv (own_chr w630 (0 : Int32)), iv (own_chr w630 (8 : Int32)), iv (own_chr w630 (16 : Int32)), rv s_641, rv s_646, rv b660, iv (((x2.toUInt32 >>> ((5 : Int32) &&& 31).toUInt32).toInt32) &&& (3 : Int32)), rv b712, iv (0 : Int32)] [(.ref b660)])) (fun t k => XS.aload X734.here hx rfl (hb hby at_237) rfl rfl k) ?_
              refine own_go (T' := T734) (g' := (mkF m 241 #[iv x0, iv x1, iv x2, iv la, iv lb, iv w630, iv (own_chr x0 (0 : Int32)), iv (own_chr x0 (8 : Int32)), iv (own_chr x0 (16 : Int32)), iv (own_chr w630 (0 : Int32)), iv (own_chr w630 (8 : Int32)), iv (own_chr w630 (16 : Int32)), rv s_641, rv s_646, rv b660, iv (((x2.toUInt32 >>> ((5 : Int32) &&& 31).toUInt32).toInt32) &&& (3 : Int32)), rv b712, iv (0 : Int32)] [(.ref b712), (.ref b660)])) (fun t k => XS.aload X734.here hx rfl (hb hby at_239) rfl rfl k) ?_
              obtain ⟨cq791, kq791, q791a, q791b, q791c⟩ := isOf hZ rfl c758
              obtain ⟨_, _, ⟨T791, L791, k791, n791⟩, -, X791, ⟨Lc791, hQ791, l791, y791, z791⟩, st791⟩ := X734.virtualBack hx (y := (⟨"com/example/events_in_order/eventsinorder/model/Topic", "equals", "(Ljava/lang/Object;)Z"⟩ : MethodName)) (z := (⟨"com/example/events_in_order/eventsinorder/model/Topic", "equals", "(Ljava/lang/Object;)Z"⟩ : MethodName)) hown (mvT hZ (hw _ (List.mem_of_getElem? (i := 125) rfl))) (mvT hZ (hw _ (List.mem_of_getElem? (i := 126) rfl))) (notFace_of_selects (args := #[]) (mvT hZ (hw _ (List.mem_of_getElem? (i := 128) rfl)))) (mvT hZ (hw _ (List.mem_of_getElem? (i := 128) rfl))) (mvT hZ (hw _ (List.mem_of_getElem? (i := 127) rfl))) (by decide) (backOf (W := 0) (own_rtt l Z a0 hw [] b660 b712 s_641 s_646 b_641 b_646 k_641 k_646 (own_ln la) (own_ln lb) cp (own_nm la (own_chr x0 (0 : Int32)) (own_chr x0 (8 : Int32)) (own_chr x0 (16 : Int32))) (own_nm lb (own_chr w630 (0 : Int32)) (own_chr w630 (8 : Int32)) (own_chr w630 (16 : Int32))) T734.heap n0 hz734 e_734 c759 f_734 c739 c740 c741 c748 c749 c750 c742 c751 (own_nm_ok (own_chr_C _ _) (own_chr_C _ _) (own_chr_C _ _)) (own_nm_ok (own_chr_C _ _) (own_chr_C _ _) (own_chr_C _ _)) nq647 c735 hcp) hZ (hw _ (List.mem_of_getElem? (i := 129) rfl)) (hw _ (List.mem_of_getElem? (i := 40) rfl)) (by decide) (by decide)) q791a q791c (g := (mkF m 241 #[iv x0, iv x1, iv x2, iv la, iv lb, iv w630, iv (own_chr x0 (0 : Int32)), iv (own_chr x0 (8 : Int32)), iv (own_chr x0 (16 : Int32)), iv (own_chr w630 (0 : Int32)), iv (own_chr w630 (8 : Int32)), iv (own_chr w630 (16 : Int32)), rv s_641, rv s_646, rv b660, iv (((x2.toUInt32 >>> ((5 : Int32) &&& 31).toUInt32).toInt32) &&& (3 : Int32)), rv b712, iv (0 : Int32)] [(.ref b712), (.ref b660)])) rfl (by rw [hml]; rfl) (Steps.refl _) (argsL := [(.ref b712)]) (rest := []) (lenOf own_pd19 rfl) rfl (by show 2 * 0 + _ ≤ _; exact Nat.le_of_eq rfl) (hb hby at_241) (fun _ _ => ⟨rfl, rfl, (by decide : 14 + 0 ≤ _), (by decide : 70 + 0 ≤ _)⟩)
              dsimp only [Pt.U, Pt.locs, Pt.cells, Pt.slots] at X791 l791 y791 z791 st791 hQ791
              subst l791 y791 z791
              obtain ⟨rfl, rfl, e791⟩ := hQ791
              have E791q : T791.heap = T734.heap := e791
              have N791 := Fr.app N734 (Fr.nil n0)
              refine own_go (T' := T791) (g' := (mkF m 244 #[iv x0, iv x1, iv x2, iv la, iv lb, iv w630, iv (own_chr x0 (0 : Int32)), iv (own_chr x0 (8 : Int32)), iv (own_chr x0 (16 : Int32)), iv (own_chr w630 (0 : Int32)), iv (own_chr w630 (8 : Int32)), iv (own_chr w630 (16 : Int32)), rv s_641, rv s_646, rv b660, iv (((x2.toUInt32 >>> ((5 : Int32) &&& 31).toUInt32).toInt32) &&& (3 : Int32)), rv b712, iv (0 : Int32)] [(.int (own_eqv (own_nm la (own_chr x0 (0 : Int32)) (own_chr x0 (8 : Int32)) (own_chr x0 (16 : Int32))) (own_nm lb (own_chr w630 (0 : Int32)) (own_chr w630 (8 : Int32)) (own_chr w630 (16 : Int32)))))])) (fun t k => st791.trans k) ?_
              refine own_go (T' := T791) (g' := (mkF m 246 #[iv x0, iv x1, iv x2, iv la, iv lb, iv w630, iv (own_chr x0 (0 : Int32)), iv (own_chr x0 (8 : Int32)), iv (own_chr x0 (16 : Int32)), iv (own_chr w630 (0 : Int32)), iv (own_chr w630 (8 : Int32)), iv (own_chr w630 (16 : Int32)), rv s_641, rv s_646, rv b660, iv (((x2.toUInt32 >>> ((5 : Int32) &&& 31).toUInt32).toInt32) &&& (3 : Int32)), rv b712, iv (0 : Int32)] [(.int (0 : Int32)), (.int (own_eqv (own_nm la (own_chr x0 (0 : Int32)) (own_chr x0 (8 : Int32)) (own_chr x0 (16 : Int32))) (own_nm lb (own_chr w630 (0 : Int32)) (own_chr w630 (8 : Int32)) (own_chr w630 (16 : Int32)))))])) (fun t k => XS.iload X791.here hx rfl (hb hby at_244) rfl k) ?_
              refine own_go (T' := T791) (g' := (mkF m 249 #[iv x0, iv x1, iv x2, iv la, iv lb, iv w630, iv (own_chr x0 (0 : Int32)), iv (own_chr x0 (8 : Int32)), iv (own_chr x0 (16 : Int32)), iv (own_chr w630 (0 : Int32)), iv (own_chr w630 (8 : Int32)), iv (own_chr w630 (16 : Int32)), rv s_641, rv s_646, rv b660, iv (((x2.toUInt32 >>> ((5 : Int32) &&& 31).toUInt32).toInt32) &&& (3 : Int32)), rv b712, iv (0 : Int32)] [])) (fun t k => XS.icmpNo X791.here hx rfl (hb hby at_246) rfl (teq (((own_key hl_la hl_lb _ _ _ _ _ _).trans ((if_pos hc769).trans (if_neg hc770))) : ((own_eqv (own_nm la (own_chr x0 (0 : Int32)) (own_chr x0 (8 : Int32)) (own_chr x0 (16 : Int32))) (own_nm lb (own_chr w630 (0 : Int32)) (own_chr w630 (8 : Int32)) (own_chr w630 (16 : Int32)))) = (0 : Int32)))).2 k) ?_
              refine own_go (T' := T791) (g' := (mkF m 251 #[iv x0, iv x1, iv x2, iv la, iv lb, iv w630, iv (own_chr x0 (0 : Int32)), iv (own_chr x0 (8 : Int32)), iv (own_chr x0 (16 : Int32)), iv (own_chr w630 (0 : Int32)), iv (own_chr w630 (8 : Int32)), iv (own_chr w630 (16 : Int32)), rv s_641, rv s_646, rv b660, iv (((x2.toUInt32 >>> ((5 : Int32) &&& 31).toUInt32).toInt32) &&& (3 : Int32)), rv b712, iv (0 : Int32)] [(.ref b712)])) (fun t k => XS.aload X791.here hx rfl (hb hby at_249) rfl rfl k) ?_
              refine own_go (T' := T791) (g' := (mkF m 253 #[iv x0, iv x1, iv x2, iv la, iv lb, iv w630, iv (own_chr x0 (0 : Int32)), iv (own_chr x0 (8 : Int32)), iv (own_chr x0 (16 : Int32)), iv (own_chr w630 (0 : Int32)), iv (own_chr w630 (8 : Int32)), iv (own_chr w630 (16 : Int32)), rv s_641, rv s_646, rv b660, iv (((x2.toUInt32 >>> ((5 : Int32) &&& 31).toUInt32).toInt32) &&& (3 : Int32)), rv b712, iv (0 : Int32)] [(.ref b660), (.ref b712)])) (fun t k => XS.aload X791.here hx rfl (hb hby at_251) rfl rfl k) ?_
              obtain ⟨cq792, kq792, q792a, q792b, q792c⟩ := isOf hZ E791q e_734
              obtain ⟨_, _, ⟨T792, L792, k792, n792⟩, -, X792, ⟨Lc792, hQ792, l792, y792, z792⟩, st792⟩ := X791.virtualBack hx (y := (⟨"com/example/events_in_order/eventsinorder/model/Topic", "equals", "(Ljava/lang/Object;)Z"⟩ : MethodName)) (z := (⟨"com/example/events_in_order/eventsinorder/model/Topic", "equals", "(Ljava/lang/Object;)Z"⟩ : MethodName)) hown (mvT hZ (hw _ (List.mem_of_getElem? (i := 125) rfl))) (mvT hZ (hw _ (List.mem_of_getElem? (i := 126) rfl))) (notFace_of_selects (args := #[]) (mvT hZ (hw _ (List.mem_of_getElem? (i := 128) rfl)))) (mvT hZ (hw _ (List.mem_of_getElem? (i := 128) rfl))) (mvT hZ (hw _ (List.mem_of_getElem? (i := 127) rfl))) (by decide) (backOf (W := 0) (own_rtt l Z a0 hw [] b712 b660 s_646 s_641 b_646 b_641 k_646 k_641 (own_ln lb) (own_ln la) cp (own_nm lb (own_chr w630 (0 : Int32)) (own_chr w630 (8 : Int32)) (own_chr w630 (16 : Int32))) (own_nm la (own_chr x0 (0 : Int32)) (own_chr x0 (8 : Int32)) (own_chr x0 (16 : Int32))) T734.heap n0 hz734 c758 f_734 c759 c748 c749 c750 c739 c740 c741 c751 c742 (own_nm_ok (own_chr_C _ _) (own_chr_C _ _) (own_chr_C _ _)) (own_nm_ok (own_chr_C _ _) (own_chr_C _ _) (own_chr_C _ _)) (Ne.symm nq647) c735 hcp) hZ (hw _ (List.mem_of_getElem? (i := 129) rfl)) (hw _ (List.mem_of_getElem? (i := 40) rfl)) (by decide) (by decide)) q792a q792c (g := (mkF m 253 #[iv x0, iv x1, iv x2, iv la, iv lb, iv w630, iv (own_chr x0 (0 : Int32)), iv (own_chr x0 (8 : Int32)), iv (own_chr x0 (16 : Int32)), iv (own_chr w630 (0 : Int32)), iv (own_chr w630 (8 : Int32)), iv (own_chr w630 (16 : Int32)), rv s_641, rv s_646, rv b660, iv (((x2.toUInt32 >>> ((5 : Int32) &&& 31).toUInt32).toInt32) &&& (3 : Int32)), rv b712, iv (0 : Int32)] [(.ref b660), (.ref b712)])) rfl (by rw [hml]; rfl) (Steps.refl _) (argsL := [(.ref b660)]) (rest := []) (lenOf own_pd19 rfl) rfl (by show 2 * 0 + _ ≤ _; exact Nat.le_of_eq rfl) (hb hby at_253) (fun _ _ => ⟨rfl, E791q, (by decide : 14 + 0 ≤ _), (by decide : 70 + 0 ≤ _)⟩)
              dsimp only [Pt.U, Pt.locs, Pt.cells, Pt.slots] at X792 l792 y792 z792 st792 hQ792
              subst l792 y792 z792
              obtain ⟨rfl, rfl, e792⟩ := hQ792
              have E792q : T792.heap = T734.heap := e792
              have N792 := Fr.app N791 (Fr.nil n0)
              refine own_go (T' := T792) (g' := (mkF m 256 #[iv x0, iv x1, iv x2, iv la, iv lb, iv w630, iv (own_chr x0 (0 : Int32)), iv (own_chr x0 (8 : Int32)), iv (own_chr x0 (16 : Int32)), iv (own_chr w630 (0 : Int32)), iv (own_chr w630 (8 : Int32)), iv (own_chr w630 (16 : Int32)), rv s_641, rv s_646, rv b660, iv (((x2.toUInt32 >>> ((5 : Int32) &&& 31).toUInt32).toInt32) &&& (3 : Int32)), rv b712, iv (0 : Int32)] [(.int (own_eqv (own_nm lb (own_chr w630 (0 : Int32)) (own_chr w630 (8 : Int32)) (own_chr w630 (16 : Int32))) (own_nm la (own_chr x0 (0 : Int32)) (own_chr x0 (8 : Int32)) (own_chr x0 (16 : Int32)))))])) (fun t k => st792.trans k) ?_
              refine own_go (T' := T792) (g' := (mkF m 258 #[iv x0, iv x1, iv x2, iv la, iv lb, iv w630, iv (own_chr x0 (0 : Int32)), iv (own_chr x0 (8 : Int32)), iv (own_chr x0 (16 : Int32)), iv (own_chr w630 (0 : Int32)), iv (own_chr w630 (8 : Int32)), iv (own_chr w630 (16 : Int32)), rv s_641, rv s_646, rv b660, iv (((x2.toUInt32 >>> ((5 : Int32) &&& 31).toUInt32).toInt32) &&& (3 : Int32)), rv b712, iv (0 : Int32)] [(.int (0 : Int32)), (.int (own_eqv (own_nm lb (own_chr w630 (0 : Int32)) (own_chr w630 (8 : Int32)) (own_chr w630 (16 : Int32))) (own_nm la (own_chr x0 (0 : Int32)) (own_chr x0 (8 : Int32)) (own_chr x0 (16 : Int32)))))])) (fun t k => XS.iload X792.here hx rfl (hb hby at_256) rfl k) ?_
              refine own_go (T' := T792) (g' := (mkF m 261 #[iv x0, iv x1, iv x2, iv la, iv lb, iv w630, iv (own_chr x0 (0 : Int32)), iv (own_chr x0 (8 : Int32)), iv (own_chr x0 (16 : Int32)), iv (own_chr w630 (0 : Int32)), iv (own_chr w630 (8 : Int32)), iv (own_chr w630 (16 : Int32)), rv s_641, rv s_646, rv b660, iv (((x2.toUInt32 >>> ((5 : Int32) &&& 31).toUInt32).toInt32) &&& (3 : Int32)), rv b712, iv (0 : Int32)] [])) (fun t k => XS.icmpNo X792.here hx rfl (hb hby at_258) rfl (teq ((own_eqv_comm _ _).trans ((own_key hl_la hl_lb _ _ _ _ _ _).trans ((if_pos hc769).trans (if_neg hc770))) : ((own_eqv (own_nm lb (own_chr w630 (0 : Int32)) (own_chr w630 (8 : Int32)) (own_chr w630 (16 : Int32))) (own_nm la (own_chr x0 (0 : Int32)) (own_chr x0 (8 : Int32)) (own_chr x0 (16 : Int32)))) = (0 : Int32)))).2 k) ?_
              refine own_go (T' := T792) (g' := (mkF m 262 #[iv x0, iv x1, iv x2, iv la, iv lb, iv w630, iv (own_chr x0 (0 : Int32)), iv (own_chr x0 (8 : Int32)), iv (own_chr x0 (16 : Int32)), iv (own_chr w630 (0 : Int32)), iv (own_chr w630 (8 : Int32)), iv (own_chr w630 (16 : Int32)), rv s_641, rv s_646, rv b660, iv (((x2.toUInt32 >>> ((5 : Int32) &&& 31).toUInt32).toInt32) &&& (3 : Int32)), rv b712, iv (0 : Int32)] [(.int (1 : Int32))])) (fun t k => XS.iconst X792.here hx rfl (hb hby at_261) k) ?_
              refine own_go (T' := T792) (g' := (mkF m 266 #[iv x0, iv x1, iv x2, iv la, iv lb, iv w630, iv (own_chr x0 (0 : Int32)), iv (own_chr x0 (8 : Int32)), iv (own_chr x0 (16 : Int32)), iv (own_chr w630 (0 : Int32)), iv (own_chr w630 (8 : Int32)), iv (own_chr w630 (16 : Int32)), rv s_641, rv s_646, rv b660, iv (((x2.toUInt32 >>> ((5 : Int32) &&& 31).toUInt32).toInt32) &&& (3 : Int32)), rv b712, iv (0 : Int32)] [(.int (1 : Int32))])) (fun t k => XS.goto X792.here hx rfl (pc0 := 262) (pc' := 266) rfl (hb hby at_262) (by decide) (by decide) k) ?_
              exact own_retW X792 hS734 (by rw [E792q]; exact (Nat.le_refl _)) hlk hx Bd.returns rfl (Or.inl ⟨rfl, Or.inr (Or.inl rfl), _, rfl⟩) (hb hby at_266) (by first | exact ⟨rfl, N792⟩ | (rw [Fr] at *; exact ⟨rfl, by simpa using N792⟩)) (by decide) (by decide)
          · refine own_go (T' := T734) (g' := (mkF m 234 #[iv x0, iv x1, iv x2, iv la, iv lb, iv w630, iv (own_chr x0 (0 : Int32)), iv (own_chr x0 (8 : Int32)), iv (own_chr x0 (16 : Int32)), iv (own_chr w630 (0 : Int32)), iv (own_chr w630 (8 : Int32)), iv (own_chr w630 (16 : Int32)), rv s_641, rv s_646, rv b660, iv (((x2.toUInt32 >>> ((5 : Int32) &&& 31).toUInt32).toInt32) &&& (3 : Int32)), rv b712, .unset] [])) (fun t k => XS.icmpYes X734.here hx rfl (pc0 := 196) (pc' := 234) rfl (hb hby at_196) rfl (feq hc769).2 (by decide) (by decide) k) ?_
            refine own_go (T' := T734) (g' := (mkF m 235 #[iv x0, iv x1, iv x2, iv la, iv lb, iv w630, iv (own_chr x0 (0 : Int32)), iv (own_chr x0 (8 : Int32)), iv (own_chr x0 (16 : Int32)), iv (own_chr w630 (0 : Int32)), iv (own_chr w630 (8 : Int32)), iv (own_chr w630 (16 : Int32)), rv s_641, rv s_646, rv b660, iv (((x2.toUInt32 >>> ((5 : Int32) &&& 31).toUInt32).toInt32) &&& (3 : Int32)), rv b712, .unset] [(.int (0 : Int32))])) (fun t k => XS.iconst X734.here hx rfl (hb hby at_234) k) ?_
            refine own_go (T' := T734) (g' := (mkF m 237 #[iv x0, iv x1, iv x2, iv la, iv lb, iv w630, iv (own_chr x0 (0 : Int32)), iv (own_chr x0 (8 : Int32)), iv (own_chr x0 (16 : Int32)), iv (own_chr w630 (0 : Int32)), iv (own_chr w630 (8 : Int32)), iv (own_chr w630 (16 : Int32)), rv s_641, rv s_646, rv b660, iv (((x2.toUInt32 >>> ((5 : Int32) &&& 31).toUInt32).toInt32) &&& (3 : Int32)), rv b712, iv (0 : Int32)] [])) (fun t k => XS.istore X734.here hx rfl (hb hby at_235) rfl (l' := #[iv x0, iv x1, iv x2, iv la, iv lb, iv w630, iv (own_chr x0 (0 : Int32)), iv (own_chr x0 (8 : Int32)), iv (own_chr x0 (16 : Int32)), iv (own_chr w630 (0 : Int32)), iv (own_chr w630 (8 : Int32)), iv (own_chr w630 (16 : Int32)), rv s_641, rv s_646, rv b660, iv (((x2.toUInt32 >>> ((5 : Int32) &&& 31).toUInt32).toInt32) &&& (3 : Int32)), rv b712, iv (0 : Int32)]) rfl k) ?_
            refine own_go (T' := T734) (g' := (mkF m 239 #[iv x0, iv x1, iv x2, iv la, iv lb, iv w630, iv (own_chr x0 (0 : Int32)), iv (own_chr x0 (8 : Int32)), iv (own_chr x0 (16 : Int32)), iv (own_chr w630 (0 : Int32)), iv (own_chr w630 (8 : Int32)), iv (own_chr w630 (16 : Int32)), rv s_641, rv s_646, rv b660, iv (((x2.toUInt32 >>> ((5 : Int32) &&& 31).toUInt32).toInt32) &&& (3 : Int32)), rv b712, iv (0 : Int32)] [(.ref b660)])) (fun t k => XS.aload X734.here hx rfl (hb hby at_237) rfl rfl k) ?_
            refine own_go (T' := T734) (g' := (mkF m 241 #[iv x0, iv x1, iv x2, iv la, iv lb, iv w630, iv (own_chr x0 (0 : Int32)), iv (own_chr x0 (8 : Int32)), iv (own_chr x0 (16 : Int32)), iv (own_chr w630 (0 : Int32)), iv (own_chr w630 (8 : Int32)), iv (own_chr w630 (16 : Int32)), rv s_641, rv s_646, rv b660, iv (((x2.toUInt32 >>> ((5 : Int32) &&& 31).toUInt32).toInt32) &&& (3 : Int32)), rv b712, iv (0 : Int32)] [(.ref b712), (.ref b660)])) (fun t k => XS.aload X734.here hx rfl (hb hby at_239) rfl rfl k) ?_
            obtain ⟨cq793, kq793, q793a, q793b, q793c⟩ := isOf hZ rfl c758
            obtain ⟨_, _, ⟨T793, L793, k793, n793⟩, -, X793, ⟨Lc793, hQ793, l793, y793, z793⟩, st793⟩ := X734.virtualBack hx (y := (⟨"com/example/events_in_order/eventsinorder/model/Topic", "equals", "(Ljava/lang/Object;)Z"⟩ : MethodName)) (z := (⟨"com/example/events_in_order/eventsinorder/model/Topic", "equals", "(Ljava/lang/Object;)Z"⟩ : MethodName)) hown (mvT hZ (hw _ (List.mem_of_getElem? (i := 125) rfl))) (mvT hZ (hw _ (List.mem_of_getElem? (i := 126) rfl))) (notFace_of_selects (args := #[]) (mvT hZ (hw _ (List.mem_of_getElem? (i := 128) rfl)))) (mvT hZ (hw _ (List.mem_of_getElem? (i := 128) rfl))) (mvT hZ (hw _ (List.mem_of_getElem? (i := 127) rfl))) (by decide) (backOf (W := 0) (own_rtt l Z a0 hw [] b660 b712 s_641 s_646 b_641 b_646 k_641 k_646 (own_ln la) (own_ln lb) cp (own_nm la (own_chr x0 (0 : Int32)) (own_chr x0 (8 : Int32)) (own_chr x0 (16 : Int32))) (own_nm lb (own_chr w630 (0 : Int32)) (own_chr w630 (8 : Int32)) (own_chr w630 (16 : Int32))) T734.heap n0 hz734 e_734 c759 f_734 c739 c740 c741 c748 c749 c750 c742 c751 (own_nm_ok (own_chr_C _ _) (own_chr_C _ _) (own_chr_C _ _)) (own_nm_ok (own_chr_C _ _) (own_chr_C _ _) (own_chr_C _ _)) nq647 c735 hcp) hZ (hw _ (List.mem_of_getElem? (i := 129) rfl)) (hw _ (List.mem_of_getElem? (i := 40) rfl)) (by decide) (by decide)) q793a q793c (g := (mkF m 241 #[iv x0, iv x1, iv x2, iv la, iv lb, iv w630, iv (own_chr x0 (0 : Int32)), iv (own_chr x0 (8 : Int32)), iv (own_chr x0 (16 : Int32)), iv (own_chr w630 (0 : Int32)), iv (own_chr w630 (8 : Int32)), iv (own_chr w630 (16 : Int32)), rv s_641, rv s_646, rv b660, iv (((x2.toUInt32 >>> ((5 : Int32) &&& 31).toUInt32).toInt32) &&& (3 : Int32)), rv b712, iv (0 : Int32)] [(.ref b712), (.ref b660)])) rfl (by rw [hml]; rfl) (Steps.refl _) (argsL := [(.ref b712)]) (rest := []) (lenOf own_pd19 rfl) rfl (by show 2 * 0 + _ ≤ _; exact Nat.le_of_eq rfl) (hb hby at_241) (fun _ _ => ⟨rfl, rfl, (by decide : 14 + 0 ≤ _), (by decide : 70 + 0 ≤ _)⟩)
            dsimp only [Pt.U, Pt.locs, Pt.cells, Pt.slots] at X793 l793 y793 z793 st793 hQ793
            subst l793 y793 z793
            obtain ⟨rfl, rfl, e793⟩ := hQ793
            have E793q : T793.heap = T734.heap := e793
            have N793 := Fr.app N734 (Fr.nil n0)
            refine own_go (T' := T793) (g' := (mkF m 244 #[iv x0, iv x1, iv x2, iv la, iv lb, iv w630, iv (own_chr x0 (0 : Int32)), iv (own_chr x0 (8 : Int32)), iv (own_chr x0 (16 : Int32)), iv (own_chr w630 (0 : Int32)), iv (own_chr w630 (8 : Int32)), iv (own_chr w630 (16 : Int32)), rv s_641, rv s_646, rv b660, iv (((x2.toUInt32 >>> ((5 : Int32) &&& 31).toUInt32).toInt32) &&& (3 : Int32)), rv b712, iv (0 : Int32)] [(.int (own_eqv (own_nm la (own_chr x0 (0 : Int32)) (own_chr x0 (8 : Int32)) (own_chr x0 (16 : Int32))) (own_nm lb (own_chr w630 (0 : Int32)) (own_chr w630 (8 : Int32)) (own_chr w630 (16 : Int32)))))])) (fun t k => st793.trans k) ?_
            refine own_go (T' := T793) (g' := (mkF m 246 #[iv x0, iv x1, iv x2, iv la, iv lb, iv w630, iv (own_chr x0 (0 : Int32)), iv (own_chr x0 (8 : Int32)), iv (own_chr x0 (16 : Int32)), iv (own_chr w630 (0 : Int32)), iv (own_chr w630 (8 : Int32)), iv (own_chr w630 (16 : Int32)), rv s_641, rv s_646, rv b660, iv (((x2.toUInt32 >>> ((5 : Int32) &&& 31).toUInt32).toInt32) &&& (3 : Int32)), rv b712, iv (0 : Int32)] [(.int (0 : Int32)), (.int (own_eqv (own_nm la (own_chr x0 (0 : Int32)) (own_chr x0 (8 : Int32)) (own_chr x0 (16 : Int32))) (own_nm lb (own_chr w630 (0 : Int32)) (own_chr w630 (8 : Int32)) (own_chr w630 (16 : Int32)))))])) (fun t k => XS.iload X793.here hx rfl (hb hby at_244) rfl k) ?_
            refine own_go (T' := T793) (g' := (mkF m 249 #[iv x0, iv x1, iv x2, iv la, iv lb, iv w630, iv (own_chr x0 (0 : Int32)), iv (own_chr x0 (8 : Int32)), iv (own_chr x0 (16 : Int32)), iv (own_chr w630 (0 : Int32)), iv (own_chr w630 (8 : Int32)), iv (own_chr w630 (16 : Int32)), rv s_641, rv s_646, rv b660, iv (((x2.toUInt32 >>> ((5 : Int32) &&& 31).toUInt32).toInt32) &&& (3 : Int32)), rv b712, iv (0 : Int32)] [])) (fun t k => XS.icmpNo X793.here hx rfl (hb hby at_246) rfl (teq (((own_key hl_la hl_lb _ _ _ _ _ _).trans (if_neg hc769)) : ((own_eqv (own_nm la (own_chr x0 (0 : Int32)) (own_chr x0 (8 : Int32)) (own_chr x0 (16 : Int32))) (own_nm lb (own_chr w630 (0 : Int32)) (own_chr w630 (8 : Int32)) (own_chr w630 (16 : Int32)))) = (0 : Int32)))).2 k) ?_
            refine own_go (T' := T793) (g' := (mkF m 251 #[iv x0, iv x1, iv x2, iv la, iv lb, iv w630, iv (own_chr x0 (0 : Int32)), iv (own_chr x0 (8 : Int32)), iv (own_chr x0 (16 : Int32)), iv (own_chr w630 (0 : Int32)), iv (own_chr w630 (8 : Int32)), iv (own_chr w630 (16 : Int32)), rv s_641, rv s_646, rv b660, iv (((x2.toUInt32 >>> ((5 : Int32) &&& 31).toUInt32).toInt32) &&& (3 : Int32)), rv b712, iv (0 : Int32)] [(.ref b712)])) (fun t k => XS.aload X793.here hx rfl (hb hby at_249) rfl rfl k) ?_
            refine own_go (T' := T793) (g' := (mkF m 253 #[iv x0, iv x1, iv x2, iv la, iv lb, iv w630, iv (own_chr x0 (0 : Int32)), iv (own_chr x0 (8 : Int32)), iv (own_chr x0 (16 : Int32)), iv (own_chr w630 (0 : Int32)), iv (own_chr w630 (8 : Int32)), iv (own_chr w630 (16 : Int32)), rv s_641, rv s_646, rv b660, iv (((x2.toUInt32 >>> ((5 : Int32) &&& 31).toUInt32).toInt32) &&& (3 : Int32)), rv b712, iv (0 : Int32)] [(.ref b660), (.ref b712)])) (fun t k => XS.aload X793.here hx rfl (hb hby at_251) rfl rfl k) ?_
            obtain ⟨cq794, kq794, q794a, q794b, q794c⟩ := isOf hZ E793q e_734
            obtain ⟨_, _, ⟨T794, L794, k794, n794⟩, -, X794, ⟨Lc794, hQ794, l794, y794, z794⟩, st794⟩ := X793.virtualBack hx (y := (⟨"com/example/events_in_order/eventsinorder/model/Topic", "equals", "(Ljava/lang/Object;)Z"⟩ : MethodName)) (z := (⟨"com/example/events_in_order/eventsinorder/model/Topic", "equals", "(Ljava/lang/Object;)Z"⟩ : MethodName)) hown (mvT hZ (hw _ (List.mem_of_getElem? (i := 125) rfl))) (mvT hZ (hw _ (List.mem_of_getElem? (i := 126) rfl))) (notFace_of_selects (args := #[]) (mvT hZ (hw _ (List.mem_of_getElem? (i := 128) rfl)))) (mvT hZ (hw _ (List.mem_of_getElem? (i := 128) rfl))) (mvT hZ (hw _ (List.mem_of_getElem? (i := 127) rfl))) (by decide) (backOf (W := 0) (own_rtt l Z a0 hw [] b712 b660 s_646 s_641 b_646 b_641 k_646 k_641 (own_ln lb) (own_ln la) cp (own_nm lb (own_chr w630 (0 : Int32)) (own_chr w630 (8 : Int32)) (own_chr w630 (16 : Int32))) (own_nm la (own_chr x0 (0 : Int32)) (own_chr x0 (8 : Int32)) (own_chr x0 (16 : Int32))) T734.heap n0 hz734 c758 f_734 c759 c748 c749 c750 c739 c740 c741 c751 c742 (own_nm_ok (own_chr_C _ _) (own_chr_C _ _) (own_chr_C _ _)) (own_nm_ok (own_chr_C _ _) (own_chr_C _ _) (own_chr_C _ _)) (Ne.symm nq647) c735 hcp) hZ (hw _ (List.mem_of_getElem? (i := 129) rfl)) (hw _ (List.mem_of_getElem? (i := 40) rfl)) (by decide) (by decide)) q794a q794c (g := (mkF m 253 #[iv x0, iv x1, iv x2, iv la, iv lb, iv w630, iv (own_chr x0 (0 : Int32)), iv (own_chr x0 (8 : Int32)), iv (own_chr x0 (16 : Int32)), iv (own_chr w630 (0 : Int32)), iv (own_chr w630 (8 : Int32)), iv (own_chr w630 (16 : Int32)), rv s_641, rv s_646, rv b660, iv (((x2.toUInt32 >>> ((5 : Int32) &&& 31).toUInt32).toInt32) &&& (3 : Int32)), rv b712, iv (0 : Int32)] [(.ref b660), (.ref b712)])) rfl (by rw [hml]; rfl) (Steps.refl _) (argsL := [(.ref b660)]) (rest := []) (lenOf own_pd19 rfl) rfl (by show 2 * 0 + _ ≤ _; exact Nat.le_of_eq rfl) (hb hby at_253) (fun _ _ => ⟨rfl, E793q, (by decide : 14 + 0 ≤ _), (by decide : 70 + 0 ≤ _)⟩)
            dsimp only [Pt.U, Pt.locs, Pt.cells, Pt.slots] at X794 l794 y794 z794 st794 hQ794
            subst l794 y794 z794
            obtain ⟨rfl, rfl, e794⟩ := hQ794
            have E794q : T794.heap = T734.heap := e794
            have N794 := Fr.app N793 (Fr.nil n0)
            refine own_go (T' := T794) (g' := (mkF m 256 #[iv x0, iv x1, iv x2, iv la, iv lb, iv w630, iv (own_chr x0 (0 : Int32)), iv (own_chr x0 (8 : Int32)), iv (own_chr x0 (16 : Int32)), iv (own_chr w630 (0 : Int32)), iv (own_chr w630 (8 : Int32)), iv (own_chr w630 (16 : Int32)), rv s_641, rv s_646, rv b660, iv (((x2.toUInt32 >>> ((5 : Int32) &&& 31).toUInt32).toInt32) &&& (3 : Int32)), rv b712, iv (0 : Int32)] [(.int (own_eqv (own_nm lb (own_chr w630 (0 : Int32)) (own_chr w630 (8 : Int32)) (own_chr w630 (16 : Int32))) (own_nm la (own_chr x0 (0 : Int32)) (own_chr x0 (8 : Int32)) (own_chr x0 (16 : Int32)))))])) (fun t k => st794.trans k) ?_
            refine own_go (T' := T794) (g' := (mkF m 258 #[iv x0, iv x1, iv x2, iv la, iv lb, iv w630, iv (own_chr x0 (0 : Int32)), iv (own_chr x0 (8 : Int32)), iv (own_chr x0 (16 : Int32)), iv (own_chr w630 (0 : Int32)), iv (own_chr w630 (8 : Int32)), iv (own_chr w630 (16 : Int32)), rv s_641, rv s_646, rv b660, iv (((x2.toUInt32 >>> ((5 : Int32) &&& 31).toUInt32).toInt32) &&& (3 : Int32)), rv b712, iv (0 : Int32)] [(.int (0 : Int32)), (.int (own_eqv (own_nm lb (own_chr w630 (0 : Int32)) (own_chr w630 (8 : Int32)) (own_chr w630 (16 : Int32))) (own_nm la (own_chr x0 (0 : Int32)) (own_chr x0 (8 : Int32)) (own_chr x0 (16 : Int32)))))])) (fun t k => XS.iload X794.here hx rfl (hb hby at_256) rfl k) ?_
            refine own_go (T' := T794) (g' := (mkF m 261 #[iv x0, iv x1, iv x2, iv la, iv lb, iv w630, iv (own_chr x0 (0 : Int32)), iv (own_chr x0 (8 : Int32)), iv (own_chr x0 (16 : Int32)), iv (own_chr w630 (0 : Int32)), iv (own_chr w630 (8 : Int32)), iv (own_chr w630 (16 : Int32)), rv s_641, rv s_646, rv b660, iv (((x2.toUInt32 >>> ((5 : Int32) &&& 31).toUInt32).toInt32) &&& (3 : Int32)), rv b712, iv (0 : Int32)] [])) (fun t k => XS.icmpNo X794.here hx rfl (hb hby at_258) rfl (teq ((own_eqv_comm _ _).trans ((own_key hl_la hl_lb _ _ _ _ _ _).trans (if_neg hc769)) : ((own_eqv (own_nm lb (own_chr w630 (0 : Int32)) (own_chr w630 (8 : Int32)) (own_chr w630 (16 : Int32))) (own_nm la (own_chr x0 (0 : Int32)) (own_chr x0 (8 : Int32)) (own_chr x0 (16 : Int32)))) = (0 : Int32)))).2 k) ?_
            refine own_go (T' := T794) (g' := (mkF m 262 #[iv x0, iv x1, iv x2, iv la, iv lb, iv w630, iv (own_chr x0 (0 : Int32)), iv (own_chr x0 (8 : Int32)), iv (own_chr x0 (16 : Int32)), iv (own_chr w630 (0 : Int32)), iv (own_chr w630 (8 : Int32)), iv (own_chr w630 (16 : Int32)), rv s_641, rv s_646, rv b660, iv (((x2.toUInt32 >>> ((5 : Int32) &&& 31).toUInt32).toInt32) &&& (3 : Int32)), rv b712, iv (0 : Int32)] [(.int (1 : Int32))])) (fun t k => XS.iconst X794.here hx rfl (hb hby at_261) k) ?_
            refine own_go (T' := T794) (g' := (mkF m 266 #[iv x0, iv x1, iv x2, iv la, iv lb, iv w630, iv (own_chr x0 (0 : Int32)), iv (own_chr x0 (8 : Int32)), iv (own_chr x0 (16 : Int32)), iv (own_chr w630 (0 : Int32)), iv (own_chr w630 (8 : Int32)), iv (own_chr w630 (16 : Int32)), rv s_641, rv s_646, rv b660, iv (((x2.toUInt32 >>> ((5 : Int32) &&& 31).toUInt32).toInt32) &&& (3 : Int32)), rv b712, iv (0 : Int32)] [(.int (1 : Int32))])) (fun t k => XS.goto X794.here hx rfl (pc0 := 262) (pc' := 266) rfl (hb hby at_262) (by decide) (by decide) k) ?_
            exact own_retW X794 hS734 (by rw [E794q]; exact (Nat.le_refl _)) hlk hx Bd.returns rfl (Or.inl ⟨rfl, Or.inr (Or.inl rfl), _, rfl⟩) (hb hby at_266) (by first | exact ⟨rfl, N794⟩ | (rw [Fr] at *; exact ⟨rfl, by simpa using N794⟩)) (by decide) (by decide)
  refine own_go (T' := s₁) (g' := (mkF m 19 #[iv x0, iv x1, iv x2, iv la, iv lb, .unset, .unset, .unset, .unset, .unset, .unset, .unset, .unset, .unset, .unset, .unset, .unset, .unset] [(.int x2)])) (fun t k => XS.iloadN X0.here hx rfl (hb hby at_18) rfl k) ?_
  refine own_go (T' := s₁) (g' := (mkF m 20 #[iv x0, iv x1, iv x2, iv la, iv lb, .unset, .unset, .unset, .unset, .unset, .unset, .unset, .unset, .unset, .unset, .unset, .unset, .unset] [(.int (4 : Int32)), (.int x2)])) (fun t k => XS.iconst X0.here hx rfl (hb hby at_19) k) ?_
  refine own_go (T' := s₁) (g' := (mkF m 21 #[iv x0, iv x1, iv x2, iv la, iv lb, .unset, .unset, .unset, .unset, .unset, .unset, .unset, .unset, .unset, .unset, .unset, .unset, .unset] [(.int ((x2.toUInt32 >>> ((4 : Int32) &&& 31).toUInt32).toInt32))])) (fun t k => XS.iushr X0.here hx rfl (hb hby at_20) rfl k) ?_
  refine own_go (T' := s₁) (g' := (mkF m 22 #[iv x0, iv x1, iv x2, iv la, iv lb, .unset, .unset, .unset, .unset, .unset, .unset, .unset, .unset, .unset, .unset, .unset, .unset, .unset] [(.int (1 : Int32)), (.int ((x2.toUInt32 >>> ((4 : Int32) &&& 31).toUInt32).toInt32))])) (fun t k => XS.iconst X0.here hx rfl (hb hby at_21) k) ?_
  refine own_go (T' := s₁) (g' := (mkF m 23 #[iv x0, iv x1, iv x2, iv la, iv lb, .unset, .unset, .unset, .unset, .unset, .unset, .unset, .unset, .unset, .unset, .unset, .unset, .unset] [(.int (((x2.toUInt32 >>> ((4 : Int32) &&& 31).toUInt32).toInt32) &&& (1 : Int32)))])) (fun t k => XS.iand X0.here hx rfl (hb hby at_22) rfl k) ?_
  by_cases hc795 : (((x2.toUInt32 >>> ((4 : Int32) &&& 31).toUInt32).toInt32) &&& (1 : Int32)) = (0 : Int32)
  · refine own_go (T' := s₁) (g' := (mkF m 30 #[iv x0, iv x1, iv x2, iv la, iv lb, .unset, .unset, .unset, .unset, .unset, .unset, .unset, .unset, .unset, .unset, .unset, .unset, .unset] [])) (fun t k => XS.ifYes X0.here hx rfl (pc0 := 23) (pc' := 30) rfl (hb hby at_23) rfl ((if0 _ _).trans (teq hc795).1) (by decide) (by decide) k) ?_
    refine own_go (T' := s₁) (g' := (mkF m 31 #[iv x0, iv x1, iv x2, iv la, iv lb, .unset, .unset, .unset, .unset, .unset, .unset, .unset, .unset, .unset, .unset, .unset, .unset, .unset] [(.int x1)])) (fun t k => XS.iloadN X0.here hx rfl (hb hby at_30) rfl k) ?_
    exact jn629 x1 _ _ _ X0 e0 N0 (by exact Z0) (S_cp) (S_fm) (S_u8) (S_in)
  · refine own_go (T' := s₁) (g' := (mkF m 26 #[iv x0, iv x1, iv x2, iv la, iv lb, .unset, .unset, .unset, .unset, .unset, .unset, .unset, .unset, .unset, .unset, .unset, .unset, .unset] [])) (fun t k => XS.ifNo X0.here hx rfl (hb hby at_23) rfl ((if0 _ _).trans (feq hc795).1) k) ?_
    refine own_go (T' := s₁) (g' := (mkF m 27 #[iv x0, iv x1, iv x2, iv la, iv lb, .unset, .unset, .unset, .unset, .unset, .unset, .unset, .unset, .unset, .unset, .unset, .unset, .unset] [(.int x0)])) (fun t k => XS.iloadN X0.here hx rfl (hb hby at_26) rfl k) ?_
    refine own_go (T' := s₁) (g' := (mkF m 31 #[iv x0, iv x1, iv x2, iv la, iv lb, .unset, .unset, .unset, .unset, .unset, .unset, .unset, .unset, .unset, .unset, .unset, .unset, .unset] [(.int x0)])) (fun t k => XS.goto X0.here hx rfl (pc0 := 27) (pc' := 31) rfl (hb hby at_27) (by decide) (by decide) k) ?_
    exact jn629 x0 _ _ _ X0 e0 N0 (by exact Z0) (S_cp) (S_fm) (S_u8) (S_in)

set_option maxRecDepth 65536 in
set_option maxHeartbeats 40000000 in
theorem own_comes {Post : Tables → Env → Array Value → State → Outcome → State → Prop} (hpost : ∀ tb e args s v u, (limb_1_1.after args s (.returned v) u = true ∧ limb_1_2.after args s (.returned v) u = true ∧ True) → ReturnedEndW s (.returned v) u (Jvm.fieldLocs frame_1_writes args s ++ Jvm.arrayLocs frame_1_arrays args s ++ Jvm.staticLocs frame_1_statics s) 32 1152 → Post tb e args s (.returned v) u) :
    ArmFor flags0 classFile x code maxLocals ret World_1 tables_1 room_1 Calls_1 rest_1 Pre_1 Post := by
  intro l hfl _ _ p e ha hc hk s m args below hf hA hF happ hP
  obtain ⟨hcalls, hrest, hpre⟩ := hP
  obtain ⟨-, -, -, hnamed, -, -, -, hat⟩ := (Spec.applies_iff hf).mp happ
  obtain ⟨hg, hn⟩ := and_e (Cond.before_iff.mp (show (Jvm.Cond.and given_1 narrow_1).before args s = true from hpre))
  obtain ⟨hg0, hg1⟩ := and_e hg
  obtain ⟨ha0, hr0⟩ := and_e hg1
  obtain ⟨ha1, hr1⟩ := and_e hr0
  obtain ⟨w0, w1, w2, rfl⟩ : ∃ w0 w1 w2 : Value, args = #[w0, w1, w2] := by
    have hs : args.size = 3 := by simpa [Cond.value, given_1] using hg0
    obtain ⟨L⟩ := args
    match L, hs with
    | [w0, w1, w2], _ => exact ⟨w0, w1, w2, rfl⟩
  have hw := fun d (hd : d ∈ tables_1) => atoms_spec (ws := Jvm.Cond.code x code maxLocals ret :: tables_1) hat d (List.mem_cons_of_mem _ hd)
  obtain ⟨hsets, hown0⟩ := atoms_of _ (rest_1_c_eq ▸ (show rest_1_c.before _ s = true from hrest))
  have hown1 := Cond.before_iff.mp hown0
  have hfit : Fit s := fun {y c} hc i hi => by
    obtain ⟨ha, rfl⟩ := Array.getElem?_eq_some_iff.mp hc
    have q := List.all_eq_true.mp ((Array.all_eq_true_iff_forall_mem.mp hF) _ (Array.getElem_mem ha)) i (List.mem_range.mpr hi)
    simpa [Array.getElem?_eq_getElem hi] using q
  obtain ⟨x0, ex0⟩ := is_v ha0
  obtain rfl : w0 = (.int x0) := Option.some.inj ex0
  obtain ⟨x1, ex1⟩ := is_v ha1
  obtain rfl : w1 = (.int x1) := Option.some.inj ex1
  obtain ⟨x2, ex2⟩ := is_v hr1
  obtain rfl : w2 = (.int x2) := Option.some.inj ex2
  obtain ⟨cp, vcp⟩ := is_v (Cond.before_iff.mp (hsets _ (List.mem_of_getElem? (i := 1) rfl)))
  have hcp : ¬ cp = 0 := gotF (Cond.eq_ints vcp (Term.int_eval 0)) (not_v (Cond.before_iff.mp (hsets _ (List.mem_of_getElem? (i := 2) rfl))))
  have S_cp : Sta s s.heap "java/lang/String" "COMPACT_STRINGS" "Z" (.int cp) := Sta.start vcp (Or.inl (hsets _ (List.mem_of_getElem? (i := 0) rfl)))
  obtain ⟨fm, vfm, hfm⟩ := isR_v (Cond.before_iff.mp (hsets _ (List.mem_of_getElem? (i := 8) rfl)))
  have S_fm : Sta s s.heap "jdk/internal/util/Preconditions" "SIOOBE_FORMATTER" "Ljava/util/function/BiFunction;" fm := Sta.start vfm (Or.inl (hsets _ (List.mem_of_getElem? (i := 7) rfl)))
  obtain ⟨u8, vu⟩ := exa_v (Cond.before_iff.mp (hsets _ (List.mem_of_getElem? (i := 14) rfl)))
  obtain ⟨ui, vi⟩ := exa_v (Cond.before_iff.mp (hsets _ (List.mem_of_getElem? (i := 17) rfl)))
  obtain rfl : u8 = ui := Value.ref.inj (gotT (eq_R vu vi rfl rfl) (Cond.before_iff.mp (hsets _ (List.mem_of_getElem? (i := 13) rfl))))
  have S_u8 : Sta s s.heap "java/nio/charset/StandardCharsets" "UTF_8" "Ljava/nio/charset/Charset;" (.ref u8) := Sta.start vu (Or.inl (hsets _ (List.mem_of_getElem? (i := 10) rfl)))
  have S_in : Sta s s.heap "sun/nio/cs/UTF_8" "INSTANCE" "Lsun/nio/cs/UTF_8;" (.ref u8) := Sta.start vi (Or.inl (hsets _ (List.mem_of_getElem? (i := 12) rfl)))
  obtain ⟨n, o, h1, h2, h3, _, L, rfl, ⟨rfl, N⟩, hq⟩ := own_law l s _ hw tables_1 x0 x1 x2 u8 cp fm s.heap s.heap.size (Nat.le_refl _) S_cp hcp S_fm hfm S_u8 S_in p e ha hc hk s m _ below hf ((Spec.applies_iff_loose hf).mp happ).1 ⟨rfl, State.Warmed39.refl s, rfl⟩ trivial
  refine ⟨n, _, h1, h2, h3, hpost _ _ _ _ _ _ ⟨Cond.after_iff.mpr rfl, Cond.after_iff.mpr (eq_i res_at (Term.int_eval (1)) rfl), trivial⟩ ⟨hq.1, hq.2.1, hq.2.2.1, (hq.2.2.2.sift fun y hy => Or.inr (N y hy)).mono (by decide) (by decide)⟩⟩
theorem main_1_1 : Claimed_1_1 := own_comes fun _ _ _ _ _ _ h hF => ⟨h.1, hF⟩
theorem main_1_2 : Claimed_1_2 := own_comes fun _ _ _ _ _ _ h hF => ⟨h.2.1, hF⟩
end Jvm.Pilot.@@N@@
namespace Jvm.Pilot.@@N@@
open Jvm Jvm.ClassFile Sem Op Lib Jvm.Free Jvm.Stand Jvm.Pilot.@@N@@.Jvm.D
/-! MADE BY PROGRAM (witnessworld.py) out of the Statement's table words and the real class files: 27 classes; the members and pool entries that the words name. The judged class is class 1, her method 3. -/
namespace start1
open Jvm.ClassFile
def u (s : String) : CpInfo := .utf8 (stringToUtf16 s)
/-- a pool by its gaps: so many unusable entries, then the entry; so many at the end -/
def gap : Nat → List CpInfo → List CpInfo
  | 0, r => r
  | n + 1, r => .unusable :: gap n r
def poolList (es : List (Nat × CpInfo)) (last : Nat) : List CpInfo := es.foldr (fun e r => gap e.1 (e.2 :: r)) (gap last [])
def pool (es : List (Nat × CpInfo)) (last : Nat) : Array CpInfo := ⟨poolList es last⟩
def fileOf (pool : Array CpInfo) (this : Nat) (attrs : Array Attribute := #[]) (ms : Array MethodInfo := #[]) (fl : Nat := 33) (sup : Nat := 0) (ifs : Array Nat := #[]) (fds : Array FieldInfo := #[]) : ClassFile where
  minorVersion := 0
  majorVersion := 65
  constantPool := pool
  accessFlags := fl
  thisClass := this
  superClass := sup
  interfaces := ifs
  fields := fds
  methods := ms
  attributes := attrs
def plain (name : String) (sup : Option ClassId) : Class where
  name := name
  kind := .ordinary
  loader := none
  accessFlags := 33
  super := sup
  interfaces := #[]
  cf := none
  fields := #[]
  methods := #[]
  instanceTypes := #[]
  staticTypes := #[]
  resolved := #[]
  callSites := []
  init := .initialized
  statics := none
  mirror := none

def pool0 : Array CpInfo := pool [(5, u "<init>"), (0, u "()V"), (1, .class_ 10), (1, u "java/lang/Object"), (85, u "clone"), (0, u "()Ljava/lang/Object;")] 26

def k0c0 : Code := { maxStack := 0, maxLocals := 1, code := object_method_1_code, exceptionTable := #[], attributes := #[] }
def k0m0 : Method := { name := "<init>", desc := "()V", sig := { parameters := [], returnType := none }, accessFlags := 1, code := some k0c0 }
def k0m1 : Method := { name := "clone", desc := "()Ljava/lang/Object;", sig := { parameters := [], returnType := some (.object "java/lang/Object") }, accessFlags := 260, code := none }
/-- java/lang/Object -/
def k0 : Class := { plain "java/lang/Object" none with
  accessFlags := 33
  interfaces := #[]
  cf := some (fileOf pool0 8 #[] #[{ accessFlags := 1, nameIndex := 5, descriptorIndex := 6, attributes := #[] }, { accessFlags := 260, nameIndex := 96, descriptorIndex := 97, attributes := #[] }] 33 0 #[] #[])
  fields := #[]
  methods := #[k0m0, k0m1]
  instanceTypes := #[]
  staticTypes := #[]
  resolved := Array.replicate 124 none
  statics := none }

def pool1 : Array CpInfo := pool [(2, .class_ 4), (1, u "java/lang/Object"), (0, u "<init>"), (0, u "()V"), (0, .class_ 8), (0, u "java/lang/String"), (0, .methodref 7 10), (0, .nameAndType 5 11), (0, u "([C)V"), (0, .integer 2147483647), (0, .methodref 14 15), (0, .class_ 16), (0, .nameAndType 17 18), (0, u "com/example/events_in_order/eventsinorder/model/TopicEqualsPinLaw"), (0, u "ch"), (0, u "(II)C"), (0, .methodref 14 20), (0, .nameAndType 21 22), (0, u "name"), (0, u "(ICCC)Ljava/lang/String;"), (0, .class_ 24), (0, u "com/example/events_in_order/eventsinorder/model/Topic"), (0, .methodref 23 26), (0, .nameAndType 5 27), (0, u "(Ljava/lang/String;)V"), (0, .methodref 23 29), (0, .nameAndType 30 31), (0, u "equals"), (0, u "(Ljava/lang/Object;)Z"), (3, u "law"), (0, u "(III)Z")] 2

def k1m0 : Method := { name := "<init>", desc := "()V", sig := { parameters := [], returnType := none }, accessFlags := 1, code := none }
def k1c1 : Code := { maxStack := 3, maxLocals := 2, code := method_2_code, exceptionTable := #[], attributes := #[] }
def k1m1 : Method := { name := "ch", desc := "(II)C", sig := { parameters := [.int, .int], returnType := some .char }, accessFlags := 10, code := some k1c1 }
def k1c2 : Code := { maxStack := 6, maxLocals := 4, code := method_3_code, exceptionTable := #[], attributes := #[] }
def k1m2 : Method := { name := "name", desc := "(ICCC)Ljava/lang/String;", sig := { parameters := [.int, .char, .char, .char], returnType := some (.object "java/lang/String") }, accessFlags := 10, code := some k1c2 }
def k1c3 : Code := { maxStack := 4, maxLocals := 18, code := code, exceptionTable := #[], attributes := #[] }
def k1m3 : Method := { name := "law", desc := "(III)Z", sig := { parameters := [.int, .int, .int], returnType := some .boolean }, accessFlags := 9, code := some k1c3 }
/-- com/example/events_in_order/eventsinorder/model/TopicEqualsPinLaw -/
def k1 : Class := { plain "com/example/events_in_order/eventsinorder/model/TopicEqualsPinLaw" (some 0) with
  accessFlags := 49
  interfaces := #[]
  cf := some (fileOf pool1 14 #[] #[{ accessFlags := 1, nameIndex := 5, descriptorIndex := 6, attributes := #[] }, { accessFlags := 10, nameIndex := 17, descriptorIndex := 18, attributes := #[] }, { accessFlags := 10, nameIndex := 21, descriptorIndex := 22, attributes := #[] }, { accessFlags := 9, nameIndex := 35, descriptorIndex := 36, attributes := #[] }] 49 2 #[] #[])
  fields := #[]
  methods := #[k1m0, k1m1, k1m2, k1m3]
  instanceTypes := #[]
  staticTypes := #[]
  resolved := Array.replicate 39 none
  statics := none }

def pool2 : Array CpInfo := pool [(1, .class_ 2), (0, u "java/io/Serializable"), (0, .class_ 4), (0, u "java/lang/Object")] 2

/-- java/io/Serializable -/
def k2 : Class := { plain "java/io/Serializable" (some 0) with
  accessFlags := 1537
  interfaces := #[]
  cf := some (fileOf pool2 1 #[] #[] 1537 3 #[] #[])
  fields := #[]
  methods := #[]
  instanceTypes := #[]
  staticTypes := #[]
  resolved := Array.replicate 7 none
  statics := none }

def pool3 : Array CpInfo := pool [(1, .class_ 2), (0, u "java/lang/Comparable"), (0, .class_ 4), (0, u "java/lang/Object")] 7

/-- java/lang/Comparable -/
def k3 : Class := { plain "java/lang/Comparable" (some 0) with
  accessFlags := 1537
  interfaces := #[]
  cf := some (fileOf pool3 1 #[] #[] 1537 3 #[] #[])
  fields := #[]
  methods := #[]
  instanceTypes := #[]
  staticTypes := #[]
  resolved := Array.replicate 12 none
  statics := none }

def pool4 : Array CpInfo := pool [(2, .class_ 4), (1, u "java/lang/CharSequence"), (42, .class_ 48), (0, u "java/lang/CharSequence$1CodePointIterator"), (10, .class_ 60), (0, u "java/lang/CharSequence$1CharIterator"), (5, .class_ 67), (0, u "java/lang/Object")] 63

/-- java/lang/CharSequence -/
def k4 : Class := { plain "java/lang/CharSequence" (some 0) with
  accessFlags := 1537
  interfaces := #[]
  cf := some (fileOf pool4 2 #[.nestMembers #[47, 59]] #[] 1537 66 #[] #[])
  fields := #[]
  methods := #[]
  instanceTypes := #[]
  staticTypes := #[]
  resolved := Array.replicate 131 none
  statics := none }

def pool5 : Array CpInfo := pool [(1, .class_ 2), (0, u "java/lang/constant/Constable"), (0, .class_ 4), (0, u "java/lang/Object")] 6

/-- java/lang/constant/Constable -/
def k5 : Class := { plain "java/lang/constant/Constable" (some 0) with
  accessFlags := 1537
  interfaces := #[]
  cf := some (fileOf pool5 1 #[] #[] 1537 3 #[] #[])
  fields := #[]
  methods := #[]
  instanceTypes := #[]
  staticTypes := #[]
  resolved := Array.replicate 11 none
  statics := none }

def pool6 : Array CpInfo := pool [(1, .class_ 2), (0, u "java/lang/constant/ConstantDesc"), (0, .class_ 4), (0, u "java/lang/Object")] 32

/-- java/lang/constant/ConstantDesc -/
def k6 : Class := { plain "java/lang/constant/ConstantDesc" (some 0) with
  accessFlags := 1537
  interfaces := #[]
  cf := some (fileOf pool6 1 #[] #[] 1537 3 #[] #[])
  fields := #[]
  methods := #[]
  instanceTypes := #[]
  staticTypes := #[]
  resolved := Array.replicate 37 none
  statics := none }

def pool7 : Array CpInfo := pool [(1, .methodref 2 3), (0, .class_ 4), (0, .nameAndType 5 6), (0, u "java/lang/Object"), (0, u "<init>"), (0, u "()V"), (2, .fieldref 10 11), (0, .class_ 12), (0, .nameAndType 13 14), (0, u "java/lang/String"), (0, u "value"), (0, u "[B"), (0, .fieldref 10 16), (0, .nameAndType 17 18), (0, u "coder"), (0, u "B"), (2, u "hash"), (0, u "I"), (2, u "hashIsZero"), (0, u "Z"), (0, .methodref 10 28), (0, .nameAndType 5 29), (0, u "([CIILjava/lang/Void;)V"), (8, .fieldref 10 39), (0, .nameAndType 40 26), (0, u "COMPACT_STRINGS"), (1, .class_ 44), (1, u "java/lang/StringUTF16"), (0, u "compress"), (1, .methodref 42 48), (0, .nameAndType 49 50), (0, u "coderFromArrayLen"), (0, u "([BI)B"), (35, .fieldref 87 88), (0, .class_ 89), (0, .nameAndType 90 91), (0, u "sun/nio/cs/UTF_8"), (0, u "INSTANCE"), (0, u "Lsun/nio/cs/UTF_8;"), (1, .class_ 95), (1, u "java/lang/StringCoding"), (11, .class_ 109), (1, u "java/lang/StringLatin1"), (18, .methodref 93 129), (0, .nameAndType 130 131), (0, u "hasNegatives"), (0, u "([BII)Z"), (10, u "()Z"), (34, .methodref 42 178), (0, .nameAndType 45 179), (0, u "([CII)[B"), (72, .methodref 10 253), (0, .nameAndType 254 255), (0, u "encodeUTF8"), (0, u "(B[BZ)[B"), (23, .methodref 280 281), (0, .class_ 14), (0, .nameAndType 282 283), (0, u "clone"), (0, u "()Ljava/lang/Object;"), (33, u "encode"), (16, u "()I"), (0, .methodref 10 336), (0, .nameAndType 17 337), (0, u "()B"), (25, u "([BI)C"), (27, u "(II)V"), (35, u "(I)C"), (64, .methodref 10 493), (0, .nameAndType 494 142), (0, u "isLatin1"), (0, .methodref 107 496), (0, .nameAndType 497 363), (0, u "charAt"), (3, u "checkIndex"), (5, u "length"), (24, u "getBytes"), (2, .methodref 10 536), (0, .nameAndType 317 537), (0, u "(Ljava/nio/charset/Charset;B[B)[B"), (3, .methodref 107 542), (0, .nameAndType 543 544), (0, u "equals"), (0, u "([B[B)Z"), (28, u "(Ljava/lang/Object;)Z"), (1, .class_ 576), (0, u "java/lang/CharSequence"), (22, u "CASE_INSENSITIVE_ORDER"), (0, u "Ljava/util/Comparator;"), (91, u "isEmpty"), (317, u "([C)V"), (42, .fieldref 1054 1055), (0, .class_ 1056), (0, .nameAndType 1057 1058), (0, u "jdk/internal/util/Preconditions"), (0, u "SIOOBE_FORMATTER"), (0, u "Ljava/util/function/BiFunction;"), (0, .methodref 1054 1060), (0, .nameAndType 501 1061), (0, u "(IILjava/util/function/BiFunction;)I"), (39, u "serialPersistentFields"), (0, u "[Ljava/io/ObjectStreamField;"), (0, .class_ 1104), (0, u "java/lang/String$CaseInsensitiveComparator"), (1, .class_ 1107), (0, u "java/io/Serializable"), (0, .class_ 1109), (0, u "java/lang/Comparable"), (0, .class_ 1111), (0, u "java/lang/constant/Constable"), (0, .class_ 1113), (0, u "java/lang/constant/ConstantDesc"), (2, u "serialVersionUID"), (0, u "J"), (3, u "REPL"), (0, u "C"), (2, u "LATIN1"), (1, u "UTF16"), (117, u "(Ljava/nio/charset/Charset;)[B")] 205

def k7m0 : Method := { name := "<init>", desc := "()V", sig := { parameters := [], returnType := none }, accessFlags := 1, code := none }
def k7c1 : Code := { maxStack := 5, maxLocals := 2, code := jdk_42_method_3_code, exceptionTable := #[], attributes := #[] }
def k7m1 : Method := { name := "<init>", desc := "([C)V", sig := { parameters := [(.array .char)], returnType := none }, accessFlags := 1, code := some k7c1 }
def k7c2 : Code := { maxStack := 4, maxLocals := 3, code := jdk_42_method_18_code, exceptionTable := #[], attributes := #[] }
def k7m2 : Method := { name := "encode", desc := "(Ljava/nio/charset/Charset;B[B)[B", sig := { parameters := [(.object "java/nio/charset/Charset"), .byte, (.array .byte)], returnType := some (.array .byte) }, accessFlags := 10, code := some k7c2 }
def k7c3 : Code := { maxStack := 5, maxLocals := 9, code := jdk_42_method_46_code, exceptionTable := #[], attributes := #[] }
def k7m3 : Method := { name := "encodeUTF8", desc := "(B[BZ)[B", sig := { parameters := [.byte, (.array .byte), .boolean], returnType := some (.array .byte) }, accessFlags := 10, code := some k7c3 }
def k7c4 : Code := { maxStack := 2, maxLocals := 1, code := jdk_42_method_54_code, exceptionTable := #[], attributes := #[] }
def k7m4 : Method := { name := "length", desc := "()I", sig := { parameters := [], returnType := some .int }, accessFlags := 1, code := some k7c4 }
def k7c5 : Code := { maxStack := 1, maxLocals := 1, code := jdk_42_method_55_code, exceptionTable := #[], attributes := #[] }
def k7m5 : Method := { name := "isEmpty", desc := "()Z", sig := { parameters := [], returnType := some .boolean }, accessFlags := 1, code := some k7c5 }
def k7c6 : Code := { maxStack := 2, maxLocals := 2, code := jdk_42_method_56_code, exceptionTable := #[], attributes := #[] }
def k7m6 : Method := { name := "charAt", desc := "(I)C", sig := { parameters := [.int], returnType := some .char }, accessFlags := 1, code := some k7c6 }
def k7c7 : Code := { maxStack := 3, maxLocals := 2, code := jdk_42_method_64_code, exceptionTable := #[], attributes := #[] }
def k7m7 : Method := { name := "getBytes", desc := "(Ljava/nio/charset/Charset;)[B", sig := { parameters := [(.object "java/nio/charset/Charset")], returnType := some (.array .byte) }, accessFlags := 1, code := some k7c7 }
def k7c8 : Code := { maxStack := 2, maxLocals := 3, code := jdk_42_method_66_code, exceptionTable := #[], attributes := #[] }
def k7m8 : Method := { name := "equals", desc := "(Ljava/lang/Object;)Z", sig := { parameters := [(.object "java/lang/Object")], returnType := some .boolean }, accessFlags := 1, code := some k7c8 }
def k7c9 : Code := { maxStack := 4, maxLocals := 6, code := jdk_42_method_149_code, exceptionTable := #[], attributes := #[] }
def k7m9 : Method := { name := "<init>", desc := "([CIILjava/lang/Void;)V", sig := { parameters := [(.array .char), .int, .int, (.object "java/lang/Void")], returnType := none }, accessFlags := 2, code := some k7c9 }
def k7c10 : Code := { maxStack := 1, maxLocals := 1, code := jdk_42_method_152_code, exceptionTable := #[], attributes := #[] }
def k7m10 : Method := { name := "coder", desc := "()B", sig := { parameters := [], returnType := some .byte }, accessFlags := 0, code := some k7c10 }
def k7c11 : Code := { maxStack := 1, maxLocals := 1, code := jdk_42_method_154_code, exceptionTable := #[], attributes := #[] }
def k7m11 : Method := { name := "isLatin1", desc := "()Z", sig := { parameters := [], returnType := some .boolean }, accessFlags := 0, code := some k7c11 }
def k7c12 : Code := { maxStack := 3, maxLocals := 2, code := jdk_42_method_155_code, exceptionTable := #[], attributes := #[] }
def k7m12 : Method := { name := "checkIndex", desc := "(II)V", sig := { parameters := [.int, .int], returnType := none }, accessFlags := 8, code := some k7c12 }
/-- java/lang/String -/
def k7 : Class := { plain "java/lang/String" (some 0) with
  accessFlags := 49
  interfaces := #[2, 3, 4, 5, 6]
  cf := some (fileOf pool7 10 #[.nestMembers #[1103]] #[{ accessFlags := 1, nameIndex := 5, descriptorIndex := 6, attributes := #[] }, { accessFlags := 1, nameIndex := 5, descriptorIndex := 1010, attributes := #[] }, { accessFlags := 10, nameIndex := 317, descriptorIndex := 537, attributes := #[] }, { accessFlags := 10, nameIndex := 254, descriptorIndex := 255, attributes := #[] }, { accessFlags := 1, nameIndex := 507, descriptorIndex := 334, attributes := #[] }, { accessFlags := 1, nameIndex := 692, descriptorIndex := 142, attributes := #[] }, { accessFlags := 1, nameIndex := 497, descriptorIndex := 427, attributes := #[] }, { accessFlags := 1, nameIndex := 532, descriptorIndex := 1245, attributes := #[] }, { accessFlags := 1, nameIndex := 543, descriptorIndex := 573, attributes := #[] }, { accessFlags := 2, nameIndex := 5, descriptorIndex := 29, attributes := #[] }, { accessFlags := 0, nameIndex := 17, descriptorIndex := 337, attributes := #[] }, { accessFlags := 0, nameIndex := 494, descriptorIndex := 142, attributes := #[] }, { accessFlags := 8, nameIndex := 501, descriptorIndex := 391, attributes := #[] }] 49 2 #[1106, 1108, 575, 1110, 1112] #[{ accessFlags := 18, nameIndex := 13, descriptorIndex := 14, attributes := #[] }, { accessFlags := 18, nameIndex := 17, descriptorIndex := 18, attributes := #[] }, { accessFlags := 2, nameIndex := 21, descriptorIndex := 22, attributes := #[] }, { accessFlags := 2, nameIndex := 25, descriptorIndex := 26, attributes := #[] }, { accessFlags := 26, nameIndex := 1116, descriptorIndex := 1117, attributes := #[] }, { accessFlags := 24, nameIndex := 40, descriptorIndex := 26, attributes := #[] }, { accessFlags := 26, nameIndex := 1101, descriptorIndex := 1102, attributes := #[] }, { accessFlags := 26, nameIndex := 1121, descriptorIndex := 1122, attributes := #[] }, { accessFlags := 25, nameIndex := 599, descriptorIndex := 600, attributes := #[] }, { accessFlags := 24, nameIndex := 1125, descriptorIndex := 18, attributes := #[] }, { accessFlags := 24, nameIndex := 1127, descriptorIndex := 18, attributes := #[] }])
  fields := #[{ name := "value", type := (.array .byte), accessFlags := 18, slot := 0, constantValue := 0 }, { name := "coder", type := .byte, accessFlags := 18, slot := 1, constantValue := 0 }, { name := "hash", type := .int, accessFlags := 2, slot := 2, constantValue := 0 }, { name := "hashIsZero", type := .boolean, accessFlags := 2, slot := 3, constantValue := 0 }, { name := "serialVersionUID", type := .long, accessFlags := 26, slot := 0, constantValue := 0 }, { name := "COMPACT_STRINGS", type := .boolean, accessFlags := 24, slot := 1, constantValue := 0 }, { name := "serialPersistentFields", type := (.array (.object "java/io/ObjectStreamField")), accessFlags := 26, slot := 2, constantValue := 0 }, { name := "REPL", type := .char, accessFlags := 26, slot := 3, constantValue := 0 }, { name := "CASE_INSENSITIVE_ORDER", type := (.object "java/util/Comparator"), accessFlags := 25, slot := 4, constantValue := 0 }, { name := "LATIN1", type := .byte, accessFlags := 24, slot := 5, constantValue := 0 }, { name := "UTF16", type := .byte, accessFlags := 24, slot := 6, constantValue := 0 }]
  methods := #[k7m0, k7m1, k7m2, k7m3, k7m4, k7m5, k7m6, k7m7, k7m8, k7m9, k7m10, k7m11, k7m12]
  instanceTypes := #[(.array .byte), .byte, .int, .boolean]
  staticTypes := #[.long, .boolean, (.array (.object "java/io/ObjectStreamField")), .char, (.object "java/util/Comparator"), .byte, .byte]
  resolved := Array.replicate 1451 none
  statics := some 0 }

def pool8 : Array CpInfo := pool [(6, .class_ 8), (1, u "java/lang/Object"), (0, u "<init>"), (0, u "()V"), (1, .class_ 14), (1, u "java/lang/StringUTF16"), (31, u "$assertionsDisabled"), (0, u "Z"), (13, u "HI_BYTE_SHIFT"), (0, u "I"), (2, u "LO_BYTE_SHIFT"), (49, .methodref 12 116), (0, .nameAndType 117 118), (0, u "compress"), (0, u "([CI[BII)I"), (3, u "([CII)[B"), (138, u "coderFromArrayLen"), (0, u "([BI)B"), (106, .class_ 371), (1, u "java/lang/StringUTF16$LinesSpliterator"), (58, u "MAX_LENGTH"), (196, .class_ 628), (0, u "java/lang/StringUTF16$CodePointsSpliterator"), (0, .class_ 630), (0, u "java/lang/StringUTF16$CharsSpliterator")] 4

def k8m0 : Method := { name := "<init>", desc := "()V", sig := { parameters := [], returnType := none }, accessFlags := 0, code := none }
def k8c1 : Code := { maxStack := 2, maxLocals := 2, code := jdk_52_method_15_code, exceptionTable := #[], attributes := #[] }
def k8m1 : Method := { name := "coderFromArrayLen", desc := "([BI)B", sig := { parameters := [(.array .byte), .int], returnType := some .byte }, accessFlags := 8, code := some k8c1 }
def k8c2 : Code := { maxStack := 5, maxLocals := 6, code := jdk_52_method_16_code, exceptionTable := #[], attributes := #[] }
def k8m2 : Method := { name := "compress", desc := "([CII)[B", sig := { parameters := [(.array .char), .int, .int], returnType := some (.array .byte) }, accessFlags := 9, code := some k8c2 }
def k8c3 : Code := { maxStack := 3, maxLocals := 7, code := jdk_52_method_21_code, exceptionTable := #[], attributes := #[] }
def k8m3 : Method := { name := "compress", desc := "([CI[BII)I", sig := { parameters := [(.array .char), .int, (.array .byte), .int, .int], returnType := some .int }, accessFlags := 9, code := some k8c3 }
/-- java/lang/StringUTF16 -/
def k8 : Class := { plain "java/lang/StringUTF16" (some 0) with
  accessFlags := 48
  interfaces := #[]
  cf := some (fileOf pool8 12 #[.nestMembers #[627, 629, 369]] #[{ accessFlags := 0, nameIndex := 9, descriptorIndex := 10, attributes := #[] }, { accessFlags := 8, nameIndex := 261, descriptorIndex := 262, attributes := #[] }, { accessFlags := 9, nameIndex := 117, descriptorIndex := 122, attributes := #[] }, { accessFlags := 9, nameIndex := 117, descriptorIndex := 118, attributes := #[] }] 48 6 #[] #[{ accessFlags := 26, nameIndex := 61, descriptorIndex := 62, attributes := #[] }, { accessFlags := 26, nameIndex := 65, descriptorIndex := 62, attributes := #[] }, { accessFlags := 24, nameIndex := 430, descriptorIndex := 62, attributes := #[] }, { accessFlags := 4120, nameIndex := 46, descriptorIndex := 47, attributes := #[] }])
  fields := #[{ name := "HI_BYTE_SHIFT", type := .int, accessFlags := 26, slot := 0, constantValue := 0 }, { name := "LO_BYTE_SHIFT", type := .int, accessFlags := 26, slot := 1, constantValue := 0 }, { name := "MAX_LENGTH", type := .int, accessFlags := 24, slot := 2, constantValue := 0 }, { name := "$assertionsDisabled", type := .boolean, accessFlags := 4120, slot := 3, constantValue := 0 }]
  methods := #[k8m0, k8m1, k8m2, k8m3]
  instanceTypes := #[]
  staticTypes := #[.int, .int, .int, .boolean]
  resolved := Array.replicate 635 none
  statics := none }

def pool9 : Array CpInfo := pool [(1, .methodref 2 3), (0, .class_ 4), (0, .nameAndType 5 6), (0, u "java/lang/Object"), (0, u "<init>"), (0, u "()V"), (0, .string 8), (0, u "name"), (0, .methodref 10 11), (0, .class_ 12), (0, .nameAndType 13 14), (0, u "java/util/Objects"), (0, u "requireNonNull"), (0, u "(Ljava/lang/Object;Ljava/lang/String;)Ljava/lang/Object;"), (0, .methodref 16 17), (0, .class_ 18), (0, .nameAndType 19 20), (0, u "java/lang/String"), (0, u "isEmpty"), (0, u "()Z"), (6, u "(Ljava/lang/String;)V"), (0, .methodref 16 29), (0, .nameAndType 30 31), (0, u "charAt"), (0, u "(I)C"), (2, .methodref 16 35), (0, .nameAndType 36 37), (0, u "length"), (0, u "()I"), (5, .class_ 45), (1, u "com/example/events_in_order/eventsinorder/model/Topic"), (7, .fieldref 54 55), (0, .class_ 56), (0, .nameAndType 57 58), (0, u "java/nio/charset/StandardCharsets"), (0, u "UTF_8"), (0, u "Ljava/nio/charset/Charset;"), (0, .methodref 16 60), (0, .nameAndType 61 62), (0, u "getBytes"), (0, u "(Ljava/nio/charset/Charset;)[B"), (0, .integer 65535), (4, .fieldref 43 69), (0, .nameAndType 8 70), (0, u "Ljava/lang/String;"), (0, .fieldref 43 72), (0, .nameAndType 73 74), (0, u "encodedName"), (0, u "[B"), (15, u "(Ljava/lang/Object;)Z"), (74, .methodref 16 166), (0, .nameAndType 167 90), (0, u "equals"), (3, .class_ 172), (0, u "java/lang/Comparable"), (0, u "MAX_NAME_BYTES"), (0, u "I")] 48

def k9c0 : Code := { maxStack := 3, maxLocals := 5, code := prog_43_method_1_code, exceptionTable := #[], attributes := #[] }
def k9m0 : Method := { name := "<init>", desc := "(Ljava/lang/String;)V", sig := { parameters := [(.object "java/lang/String")], returnType := none }, accessFlags := 1, code := some k9c0 }
def k9c1 : Code := { maxStack := 2, maxLocals := 2, code := prog_43_method_12_code, exceptionTable := #[], attributes := #[] }
def k9m1 : Method := { name := "equals", desc := "(Ljava/lang/Object;)Z", sig := { parameters := [(.object "java/lang/Object")], returnType := some .boolean }, accessFlags := 1, code := some k9c1 }
/-- com/example/events_in_order/eventsinorder/model/Topic -/
def k9 : Class := { plain "com/example/events_in_order/eventsinorder/model/Topic" (some 0) with
  accessFlags := 49
  interfaces := #[3]
  cf := some (fileOf pool9 43 #[] #[{ accessFlags := 1, nameIndex := 5, descriptorIndex := 27, attributes := #[] }, { accessFlags := 1, nameIndex := 167, descriptorIndex := 90, attributes := #[] }] 49 2 #[171] #[{ accessFlags := 25, nameIndex := 173, descriptorIndex := 174, attributes := #[] }, { accessFlags := 18, nameIndex := 8, descriptorIndex := 70, attributes := #[] }, { accessFlags := 18, nameIndex := 73, descriptorIndex := 74, attributes := #[] }])
  fields := #[{ name := "MAX_NAME_BYTES", type := .int, accessFlags := 25, slot := 0, constantValue := 0 }, { name := "name", type := (.object "java/lang/String"), accessFlags := 18, slot := 0, constantValue := 0 }, { name := "encodedName", type := (.array .byte), accessFlags := 18, slot := 1, constantValue := 0 }]
  methods := #[k9m0, k9m1]
  instanceTypes := #[(.object "java/lang/String"), (.array .byte)]
  staticTypes := #[.int]
  resolved := Array.replicate 223 none
  statics := none }

def pool10 : Array CpInfo := pool [(2, .class_ 4), (1, u "java/lang/Object"), (0, u "<init>"), (0, u "()V"), (35, .class_ 44), (1, u "java/util/Objects"), (0, u "requireNonNull"), (48, u "(Ljava/lang/Object;Ljava/lang/String;)Ljava/lang/Object;")] 89

def k10m0 : Method := { name := "<init>", desc := "()V", sig := { parameters := [], returnType := none }, accessFlags := 2, code := none }
def k10c1 : Code := { maxStack := 3, maxLocals := 2, code := jdk_31_method_11_code, exceptionTable := #[], attributes := #[] }
def k10m1 : Method := { name := "requireNonNull", desc := "(Ljava/lang/Object;Ljava/lang/String;)Ljava/lang/Object;", sig := { parameters := [(.object "java/lang/Object"), (.object "java/lang/String")], returnType := some (.object "java/lang/Object") }, accessFlags := 9, code := some k10c1 }
/-- java/util/Objects -/
def k10 : Class := { plain "java/util/Objects" (some 0) with
  accessFlags := 49
  interfaces := #[]
  cf := some (fileOf pool10 42 #[] #[{ accessFlags := 2, nameIndex := 5, descriptorIndex := 6, attributes := #[] }, { accessFlags := 9, nameIndex := 45, descriptorIndex := 94, attributes := #[] }] 49 2 #[] #[])
  fields := #[]
  methods := #[k10m0, k10m1]
  instanceTypes := #[]
  staticTypes := #[]
  resolved := Array.replicate 184 none
  statics := none }

def pool11 : Array CpInfo := pool [(1, .class_ 2), (0, u "java/lang/String"), (1, .class_ 6), (1, u "java/lang/Object"), (0, u "<init>"), (0, u "()V"), (0, .methodref 1 10), (0, .nameAndType 11 12), (0, u "checkIndex"), (0, u "(II)V"), (1, .class_ 16), (1, u "java/lang/StringLatin1"), (36, u "([BI)C"), (67, u "$assertionsDisabled"), (0, u "Z"), (98, .class_ 223), (1, u "java/lang/StringLatin1$LinesSpliterator"), (28, u "charAt"), (28, u "equals"), (0, u "([B[B)Z"), (107, .class_ 391), (0, u "java/lang/StringLatin1$CharsSpliterator")] 3

def k11m0 : Method := { name := "<init>", desc := "()V", sig := { parameters := [], returnType := none }, accessFlags := 0, code := none }
def k11c1 : Code := { maxStack := 2, maxLocals := 2, code := jdk_43_method_2_code, exceptionTable := #[], attributes := #[] }
def k11m1 : Method := { name := "charAt", desc := "([BI)C", sig := { parameters := [(.array .byte), .int], returnType := some .char }, accessFlags := 9, code := some k11c1 }
def k11c2 : Code := { maxStack := 3, maxLocals := 3, code := jdk_43_method_13_code, exceptionTable := #[], attributes := #[] }
def k11m2 : Method := { name := "equals", desc := "([B[B)Z", sig := { parameters := [(.array .byte), (.array .byte)], returnType := some .boolean }, accessFlags := 9, code := some k11c2 }
/-- java/lang/StringLatin1 -/
def k11 : Class := { plain "java/lang/StringLatin1" (some 0) with
  accessFlags := 48
  interfaces := #[]
  cf := some (fileOf pool11 14 #[.nestMembers #[390, 221]] #[{ accessFlags := 0, nameIndex := 7, descriptorIndex := 8, attributes := #[] }, { accessFlags := 9, nameIndex := 252, descriptorIndex := 53, attributes := #[] }, { accessFlags := 9, nameIndex := 281, descriptorIndex := 282, attributes := #[] }] 48 4 #[] #[{ accessFlags := 4120, nameIndex := 121, descriptorIndex := 122, attributes := #[] }])
  fields := #[{ name := "$assertionsDisabled", type := .boolean, accessFlags := 4120, slot := 0, constantValue := 0 }]
  methods := #[k11m0, k11m1, k11m2]
  instanceTypes := #[]
  staticTypes := #[.boolean]
  resolved := Array.replicate 395 none
  statics := none }

def pool12 : Array CpInfo := pool [(2, .class_ 4), (1, u "java/lang/Object"), (0, u "<init>"), (0, u "()V"), (17, .class_ 26), (1, u "jdk/internal/util/Preconditions"), (6, u "checkIndex"), (21, .class_ 56), (0, u "jdk/internal/util/Preconditions$4"), (57, .class_ 115), (0, u "jdk/internal/util/Preconditions$1"), (7, u "SIOOBE_FORMATTER"), (0, u "Ljava/util/function/BiFunction;"), (0, .class_ 126), (0, u "jdk/internal/util/Preconditions$2"), (3, u "AIOOBE_FORMATTER"), (0, .class_ 132), (0, u "jdk/internal/util/Preconditions$3"), (3, u "IOOBE_FORMATTER"), (41, u "(IILjava/util/function/BiFunction;)I")] 15

def k12m0 : Method := { name := "<init>", desc := "()V", sig := { parameters := [], returnType := none }, accessFlags := 1, code := none }
def k12c1 : Code := { maxStack := 3, maxLocals := 3, code := jdk_41_method_11_code, exceptionTable := #[], attributes := #[] }
def k12m1 : Method := { name := "checkIndex", desc := "(IILjava/util/function/BiFunction;)I", sig := { parameters := [.int, .int, (.object "java/util/function/BiFunction")], returnType := some .int }, accessFlags := 9, code := some k12c1 }
/-- jdk/internal/util/Preconditions -/
def k12 : Class := { plain "jdk/internal/util/Preconditions" (some 0) with
  accessFlags := 33
  interfaces := #[]
  cf := some (fileOf pool12 24 #[.nestMembers #[55, 131, 125, 114]] #[{ accessFlags := 1, nameIndex := 5, descriptorIndex := 6, attributes := #[] }, { accessFlags := 9, nameIndex := 33, descriptorIndex := 178, attributes := #[] }] 33 2 #[] #[{ accessFlags := 25, nameIndex := 123, descriptorIndex := 124, attributes := #[] }, { accessFlags := 25, nameIndex := 130, descriptorIndex := 124, attributes := #[] }, { accessFlags := 25, nameIndex := 136, descriptorIndex := 124, attributes := #[] }])
  fields := #[{ name := "SIOOBE_FORMATTER", type := (.object "java/util/function/BiFunction"), accessFlags := 25, slot := 0, constantValue := 0 }, { name := "AIOOBE_FORMATTER", type := (.object "java/util/function/BiFunction"), accessFlags := 25, slot := 1, constantValue := 0 }, { name := "IOOBE_FORMATTER", type := (.object "java/util/function/BiFunction"), accessFlags := 25, slot := 2, constantValue := 0 }]
  methods := #[k12m0, k12m1]
  instanceTypes := #[]
  staticTypes := #[(.object "java/util/function/BiFunction"), (.object "java/util/function/BiFunction"), (.object "java/util/function/BiFunction")]
  resolved := Array.replicate 194 none
  statics := some 1 }

def pool13 : Array CpInfo := pool [(2, .class_ 4), (1, u "java/lang/Object"), (0, u "<init>"), (0, u "()V"), (14, .class_ 23), (1, u "java/nio/charset/StandardCharsets"), (0, u "US_ASCII"), (0, u "Ljava/nio/charset/Charset;"), (7, u "ISO_8859_1"), (7, u "UTF_8"), (5, u "UTF_16BE"), (5, u "UTF_16LE"), (5, u "UTF_16")] 8

def k13m0 : Method := { name := "<init>", desc := "()V", sig := { parameters := [], returnType := none }, accessFlags := 2, code := none }
/-- java/nio/charset/StandardCharsets -/
def k13 : Class := { plain "java/nio/charset/StandardCharsets" (some 0) with
  accessFlags := 49
  interfaces := #[]
  cf := some (fileOf pool13 21 #[] #[{ accessFlags := 2, nameIndex := 5, descriptorIndex := 6, attributes := #[] }] 49 2 #[] #[{ accessFlags := 25, nameIndex := 24, descriptorIndex := 25, attributes := #[] }, { accessFlags := 25, nameIndex := 33, descriptorIndex := 25, attributes := #[] }, { accessFlags := 25, nameIndex := 41, descriptorIndex := 25, attributes := #[] }, { accessFlags := 25, nameIndex := 47, descriptorIndex := 25, attributes := #[] }, { accessFlags := 25, nameIndex := 53, descriptorIndex := 25, attributes := #[] }, { accessFlags := 25, nameIndex := 59, descriptorIndex := 25, attributes := #[] }])
  fields := #[{ name := "US_ASCII", type := (.object "java/nio/charset/Charset"), accessFlags := 25, slot := 0, constantValue := 0 }, { name := "ISO_8859_1", type := (.object "java/nio/charset/Charset"), accessFlags := 25, slot := 1, constantValue := 0 }, { name := "UTF_8", type := (.object "java/nio/charset/Charset"), accessFlags := 25, slot := 2, constantValue := 0 }, { name := "UTF_16BE", type := (.object "java/nio/charset/Charset"), accessFlags := 25, slot := 3, constantValue := 0 }, { name := "UTF_16LE", type := (.object "java/nio/charset/Charset"), accessFlags := 25, slot := 4, constantValue := 0 }, { name := "UTF_16", type := (.object "java/nio/charset/Charset"), accessFlags := 25, slot := 5, constantValue := 0 }]
  methods := #[k13m0]
  instanceTypes := #[]
  staticTypes := #[(.object "java/nio/charset/Charset"), (.object "java/nio/charset/Charset"), (.object "java/nio/charset/Charset"), (.object "java/nio/charset/Charset"), (.object "java/nio/charset/Charset"), (.object "java/nio/charset/Charset")]
  resolved := Array.replicate 68 none
  statics := some 2 }

def pool14 : Array CpInfo := pool [(18, .class_ 20), (1, u "java/nio/charset/Charset"), (0, u "cache1"), (0, u "[Ljava/lang/Object;"), (2, u "cache2"), (0, .class_ 27), (0, u "java/lang/Object"), (0, .class_ 29), (0, u "java/nio/charset/Charset$1"), (4, .class_ 36), (1, u "java/nio/charset/Charset$ThreadTrackHolder"), (21, .class_ 59), (0, u "java/nio/charset/Charset$2"), (11, .class_ 73), (1, u "java/nio/charset/Charset$ExtendedProviderHolder"), (22, u "standardProvider"), (0, u "Ljava/nio/charset/spi/CharsetProvider;"), (29, u "name"), (7, .class_ 136), (0, u "java/nio/charset/Charset$3"), (5, u "defaultCharset"), (0, u "Ljava/nio/charset/Charset;"), (14, u "zeroAliases"), (0, u "[Ljava/lang/String;"), (29, u "Ljava/lang/String;"), (2, u "aliases"), (2, u "aliasSet"), (0, u "Ljava/util/Set;"), (82, .class_ 280), (0, u "java/lang/Comparable"), (84, .class_ 366), (0, u "java/nio/charset/Charset$ExtendedProviderHolder$1")] 3

/-- java/nio/charset/Charset -/
def k14 : Class := { plain "java/nio/charset/Charset" (some 0) with
  accessFlags := 1057
  interfaces := #[3]
  cf := some (fileOf pool14 18 #[.nestMembers #[71, 365, 34, 135, 58, 28]] #[] 1057 26 #[279] #[{ accessFlags := 26, nameIndex := 96, descriptorIndex := 97, attributes := #[] }, { accessFlags := 26, nameIndex := 158, descriptorIndex := 159, attributes := #[] }, { accessFlags := 74, nameIndex := 21, descriptorIndex := 22, attributes := #[] }, { accessFlags := 74, nameIndex := 25, descriptorIndex := 22, attributes := #[] }, { accessFlags := 10, nameIndex := 142, descriptorIndex := 143, attributes := #[] }, { accessFlags := 18, nameIndex := 127, descriptorIndex := 189, attributes := #[] }, { accessFlags := 18, nameIndex := 192, descriptorIndex := 159, attributes := #[] }, { accessFlags := 2, nameIndex := 195, descriptorIndex := 196, attributes := #[] }])
  fields := #[{ name := "standardProvider", type := (.object "java/nio/charset/spi/CharsetProvider"), accessFlags := 26, slot := 0, constantValue := 0 }, { name := "zeroAliases", type := (.array (.object "java/lang/String")), accessFlags := 26, slot := 1, constantValue := 0 }, { name := "cache1", type := (.array (.object "java/lang/Object")), accessFlags := 74, slot := 2, constantValue := 0 }, { name := "cache2", type := (.array (.object "java/lang/Object")), accessFlags := 74, slot := 3, constantValue := 0 }, { name := "defaultCharset", type := (.object "java/nio/charset/Charset"), accessFlags := 10, slot := 4, constantValue := 0 }, { name := "name", type := (.object "java/lang/String"), accessFlags := 18, slot := 0, constantValue := 0 }, { name := "aliases", type := (.array (.object "java/lang/String")), accessFlags := 18, slot := 1, constantValue := 0 }, { name := "aliasSet", type := (.object "java/util/Set"), accessFlags := 2, slot := 2, constantValue := 0 }]
  methods := #[]
  instanceTypes := #[(.object "java/lang/String"), (.array (.object "java/lang/String")), (.object "java/util/Set")]
  staticTypes := #[(.object "java/nio/charset/spi/CharsetProvider"), (.array (.object "java/lang/String")), (.array (.object "java/lang/Object")), (.array (.object "java/lang/Object")), (.object "java/nio/charset/Charset")]
  resolved := Array.replicate 370 none
  statics := none }

def pool15 : Array CpInfo := pool [(1, .class_ 2), (0, u "sun/nio/cs/HistoricallyNamedCharset"), (0, .class_ 4), (0, u "java/lang/Object")] 4

/-- sun/nio/cs/HistoricallyNamedCharset -/
def k15 : Class := { plain "sun/nio/cs/HistoricallyNamedCharset" (some 0) with
  accessFlags := 1537
  interfaces := #[]
  cf := some (fileOf pool15 1 #[] #[] 1537 3 #[] #[])
  fields := #[]
  methods := #[]
  instanceTypes := #[]
  staticTypes := #[]
  resolved := Array.replicate 9 none
  statics := none }

def pool16 : Array CpInfo := pool [(2, .class_ 4), (1, u "java/nio/charset/Charset"), (130, .class_ 136), (0, u "sun/nio/cs/Unicode"), (0, .class_ 138), (0, u "sun/nio/cs/HistoricallyNamedCharset")] 15

/-- sun/nio/cs/Unicode -/
def k16 : Class := { plain "sun/nio/cs/Unicode" (some 14) with
  accessFlags := 1056
  interfaces := #[15]
  cf := some (fileOf pool16 135 #[] #[] 1056 2 #[137] #[])
  fields := #[]
  methods := #[]
  instanceTypes := #[(.object "java/lang/String"), (.array (.object "java/lang/String")), (.object "java/util/Set")]
  staticTypes := #[]
  resolved := Array.replicate 154 none
  statics := none }

def pool17 : Array CpInfo := pool [(10, .class_ 12), (1, u "sun/nio/cs/Unicode"), (0, u "<init>"), (3, .class_ 18), (0, u "sun/nio/cs/UTF_8$Decoder"), (3, .class_ 23), (0, u "sun/nio/cs/UTF_8$Encoder"), (15, .class_ 40), (0, u "sun/nio/cs/UTF_8"), (2, u "()V"), (2, u "INSTANCE"), (0, u "Lsun/nio/cs/UTF_8;"), (8, u "JLA"), (0, u "Ljdk/internal/access/JavaLangAccess;")] 26

def k17m0 : Method := { name := "<init>", desc := "()V", sig := { parameters := [], returnType := none }, accessFlags := 1, code := none }
/-- sun/nio/cs/UTF_8 -/
def k17 : Class := { plain "sun/nio/cs/UTF_8" (some 16) with
  accessFlags := 49
  interfaces := #[]
  cf := some (fileOf pool17 39 #[.nestMembers #[22, 17]] #[{ accessFlags := 1, nameIndex := 13, descriptorIndex := 43, attributes := #[] }] 49 10 #[] #[{ accessFlags := 25, nameIndex := 46, descriptorIndex := 47, attributes := #[] }, { accessFlags := 26, nameIndex := 56, descriptorIndex := 57, attributes := #[] }])
  fields := #[{ name := "INSTANCE", type := (.object "sun/nio/cs/UTF_8"), accessFlags := 25, slot := 0, constantValue := 0 }, { name := "JLA", type := (.object "jdk/internal/access/JavaLangAccess"), accessFlags := 26, slot := 1, constantValue := 0 }]
  methods := #[k17m0]
  instanceTypes := #[(.object "java/lang/String"), (.array (.object "java/lang/String")), (.object "java/util/Set")]
  staticTypes := #[(.object "sun/nio/cs/UTF_8"), (.object "jdk/internal/access/JavaLangAccess")]
  resolved := Array.replicate 84 none
  statics := some 3 }

def pool18 : Array CpInfo := pool [(2, .class_ 4), (1, u "java/lang/Object"), (0, u "<init>"), (0, u "()V"), (0, .methodref 8 9), (0, .class_ 10), (0, .nameAndType 11 12), (0, u "java/lang/StringCoding"), (0, u "countPositives"), (0, u "([BII)I"), (11, u "hasNegatives"), (0, u "([BII)Z")] 23

def k18m0 : Method := { name := "<init>", desc := "()V", sig := { parameters := [], returnType := none }, accessFlags := 2, code := none }
def k18c1 : Code := { maxStack := 3, maxLocals := 3, code := jdk_123_method_2_code, exceptionTable := #[], attributes := #[] }
def k18m1 : Method := { name := "hasNegatives", desc := "([BII)Z", sig := { parameters := [(.array .byte), .int, .int], returnType := some .boolean }, accessFlags := 9, code := some k18c1 }
def k18c2 : Code := { maxStack := 2, maxLocals := 5, code := jdk_123_method_3_code, exceptionTable := #[], attributes := #[] }
def k18m2 : Method := { name := "countPositives", desc := "([BII)I", sig := { parameters := [(.array .byte), .int, .int], returnType := some .int }, accessFlags := 9, code := some k18c2 }
/-- java/lang/StringCoding -/
def k18 : Class := { plain "java/lang/StringCoding" (some 0) with
  accessFlags := 32
  interfaces := #[]
  cf := some (fileOf pool18 8 #[] #[{ accessFlags := 2, nameIndex := 5, descriptorIndex := 6, attributes := #[] }, { accessFlags := 9, nameIndex := 24, descriptorIndex := 25, attributes := #[] }, { accessFlags := 9, nameIndex := 11, descriptorIndex := 12, attributes := #[] }] 32 2 #[] #[])
  fields := #[]
  methods := #[k18m0, k18m1, k18m2]
  instanceTypes := #[]
  staticTypes := #[]
  resolved := Array.replicate 49 none
  statics := none }

def pool19 : Array CpInfo := pool [(1, .class_ 2), (0, u "java/lang/Cloneable"), (0, .class_ 4), (0, u "java/lang/Object")] 2

/-- java/lang/Cloneable -/
def k19 : Class := { plain "java/lang/Cloneable" (some 0) with
  accessFlags := 1537
  interfaces := #[]
  cf := some (fileOf pool19 1 #[] #[] 1537 3 #[] #[])
  fields := #[]
  methods := #[]
  instanceTypes := #[]
  staticTypes := #[]
  resolved := Array.replicate 7 none
  statics := none }

def pool20 : Array CpInfo := pool [(9, u "<init>"), (6, .class_ 18), (1, u "java/lang/Object"), (0, u "()V"), (1, .class_ 23), (1, u "jdk/internal/util/ArraysSupport"), (0, u "LOG2_ARRAY_LONG_INDEX_SCALE"), (0, u "I"), (2, u "U"), (0, u "Ljdk/internal/misc/Unsafe;"), (8, u "BIG_ENDIAN"), (0, u "Z"), (8, u "LOG2_BYTE_BIT_SIZE"), (4, u "LOG2_ARRAY_INT_INDEX_SCALE"), (54, u "JLA"), (0, u "Ljdk/internal/access/JavaLangAccess;"), (11, u "LOG2_ARRAY_BOOLEAN_INDEX_SCALE"), (9, u "LOG2_ARRAY_BYTE_INDEX_SCALE"), (5, u "LOG2_ARRAY_CHAR_INDEX_SCALE"), (5, u "LOG2_ARRAY_SHORT_INDEX_SCALE"), (18, u "LOG2_ARRAY_FLOAT_INDEX_SCALE"), (24, u "LOG2_ARRAY_DOUBLE_INDEX_SCALE"), (89, u "T_BOOLEAN"), (2, u "T_CHAR"), (1, u "T_FLOAT"), (1, u "T_DOUBLE"), (1, u "T_BYTE"), (1, u "T_SHORT"), (1, u "T_INT"), (1, u "T_LONG"), (1, u "SOFT_MAX_ARRAY_LENGTH")] 83

def k20m0 : Method := { name := "<init>", desc := "()V", sig := { parameters := [], returnType := none }, accessFlags := 2, code := none }
/-- jdk/internal/util/ArraysSupport -/
def k20 : Class := { plain "jdk/internal/util/ArraysSupport" (some 0) with
  accessFlags := 33
  interfaces := #[]
  cf := some (fileOf pool20 21 #[] #[{ accessFlags := 2, nameIndex := 9, descriptorIndex := 19, attributes := #[] }] 33 16 #[] #[{ accessFlags := 24, nameIndex := 28, descriptorIndex := 29, attributes := #[] }, { accessFlags := 26, nameIndex := 38, descriptorIndex := 39, attributes := #[] }, { accessFlags := 25, nameIndex := 121, descriptorIndex := 25, attributes := #[] }, { accessFlags := 25, nameIndex := 131, descriptorIndex := 25, attributes := #[] }, { accessFlags := 25, nameIndex := 137, descriptorIndex := 25, attributes := #[] }, { accessFlags := 25, nameIndex := 143, descriptorIndex := 25, attributes := #[] }, { accessFlags := 25, nameIndex := 53, descriptorIndex := 25, attributes := #[] }, { accessFlags := 25, nameIndex := 24, descriptorIndex := 25, attributes := #[] }, { accessFlags := 25, nameIndex := 162, descriptorIndex := 25, attributes := #[] }, { accessFlags := 25, nameIndex := 187, descriptorIndex := 25, attributes := #[] }, { accessFlags := 26, nameIndex := 48, descriptorIndex := 25, attributes := #[] }, { accessFlags := 25, nameIndex := 277, descriptorIndex := 25, attributes := #[] }, { accessFlags := 25, nameIndex := 280, descriptorIndex := 25, attributes := #[] }, { accessFlags := 25, nameIndex := 282, descriptorIndex := 25, attributes := #[] }, { accessFlags := 25, nameIndex := 284, descriptorIndex := 25, attributes := #[] }, { accessFlags := 25, nameIndex := 286, descriptorIndex := 25, attributes := #[] }, { accessFlags := 25, nameIndex := 288, descriptorIndex := 25, attributes := #[] }, { accessFlags := 25, nameIndex := 290, descriptorIndex := 25, attributes := #[] }, { accessFlags := 25, nameIndex := 292, descriptorIndex := 25, attributes := #[] }, { accessFlags := 26, nameIndex := 108, descriptorIndex := 109, attributes := #[] }, { accessFlags := 25, nameIndex := 294, descriptorIndex := 25, attributes := #[] }])
  fields := #[{ name := "U", type := (.object "jdk/internal/misc/Unsafe"), accessFlags := 24, slot := 0, constantValue := 0 }, { name := "BIG_ENDIAN", type := .boolean, accessFlags := 26, slot := 1, constantValue := 0 }, { name := "LOG2_ARRAY_BOOLEAN_INDEX_SCALE", type := .int, accessFlags := 25, slot := 2, constantValue := 0 }, { name := "LOG2_ARRAY_BYTE_INDEX_SCALE", type := .int, accessFlags := 25, slot := 3, constantValue := 0 }, { name := "LOG2_ARRAY_CHAR_INDEX_SCALE", type := .int, accessFlags := 25, slot := 4, constantValue := 0 }, { name := "LOG2_ARRAY_SHORT_INDEX_SCALE", type := .int, accessFlags := 25, slot := 5, constantValue := 0 }, { name := "LOG2_ARRAY_INT_INDEX_SCALE", type := .int, accessFlags := 25, slot := 6, constantValue := 0 }, { name := "LOG2_ARRAY_LONG_INDEX_SCALE", type := .int, accessFlags := 25, slot := 7, constantValue := 0 }, { name := "LOG2_ARRAY_FLOAT_INDEX_SCALE", type := .int, accessFlags := 25, slot := 8, constantValue := 0 }, { name := "LOG2_ARRAY_DOUBLE_INDEX_SCALE", type := .int, accessFlags := 25, slot := 9, constantValue := 0 }, { name := "LOG2_BYTE_BIT_SIZE", type := .int, accessFlags := 26, slot := 10, constantValue := 0 }, { name := "T_BOOLEAN", type := .int, accessFlags := 25, slot := 11, constantValue := 0 }, { name := "T_CHAR", type := .int, accessFlags := 25, slot := 12, constantValue := 0 }, { name := "T_FLOAT", type := .int, accessFlags := 25, slot := 13, constantValue := 0 }, { name := "T_DOUBLE", type := .int, accessFlags := 25, slot := 14, constantValue := 0 }, { name := "T_BYTE", type := .int, accessFlags := 25, slot := 15, constantValue := 0 }, { name := "T_SHORT", type := .int, accessFlags := 25, slot := 16, constantValue := 0 }, { name := "T_INT", type := .int, accessFlags := 25, slot := 17, constantValue := 0 }, { name := "T_LONG", type := .int, accessFlags := 25, slot := 18, constantValue := 0 }, { name := "JLA", type := (.object "jdk/internal/access/JavaLangAccess"), accessFlags := 26, slot := 19, constantValue := 0 }, { name := "SOFT_MAX_ARRAY_LENGTH", type := .int, accessFlags := 25, slot := 20, constantValue := 0 }]
  methods := #[k20m0]
  instanceTypes := #[]
  staticTypes := #[(.object "jdk/internal/misc/Unsafe"), .boolean, .int, .int, .int, .int, .int, .int, .int, .int, .int, .int, .int, .int, .int, .int, .int, .int, .int, (.object "jdk/internal/access/JavaLangAccess"), .int]
  resolved := Array.replicate 378 none
  statics := none }

/-- the primitive byte -/
def k21 : Class := { plain "byte" none with kind := .primitive 'B', accessFlags := 0x411 }
/-- [B -/
def k22 : Class := { plain "[B" (some 0) with kind := .array 21 .byte, interfaces := #[19, 2], accessFlags := 1041 }

/-- the primitive char -/
def k23 : Class := { plain "char" none with kind := .primitive 'C', accessFlags := 0x411 }
/-- [C -/
def k24 : Class := { plain "[C" (some 0) with kind := .array 23 .char, interfaces := #[19, 2], accessFlags := 1041 }

/-- the primitive int -/
def k25 : Class := { plain "int" none with kind := .primitive 'I', accessFlags := 0x411 }
/-- [I -/
def k26 : Class := { plain "[I" (some 0) with kind := .array 25 .int, interfaces := #[19, 2], accessFlags := 1041 }

def heap : Heap := #[{ cls := 7, slots := #[.long 0, .int 1, .null, .int 0, .null, .int 0, .int 0], vm := .statics 7 },
  { cls := 12, slots := #[.null, .null, .null], vm := .statics 12 },
  { cls := 13, slots := #[.null, .null, .ref 4, .null, .null, .null], vm := .statics 13 },
  { cls := 17, slots := #[.ref 4, .null], vm := .statics 17 },
  { cls := 17, slots := #[.null, .null, .null], vm := .none }]
def classes : Array Class := #[k0, k1, k2, k3, k4, k5, k6, k7, k8, k9, k10, k11, k12, k13, k14, k15, k16, k17, k18, k19, k20, k21, k22, k23, k24, k25, k26]
def interned : List (Array UInt16 × Addr) := []
def slotsUsed : Nat := 21
def theMethod : MethodId := ⟨1, 3⟩
def args0 : Array Value := #[.int 3, .int 4, .int 5]
def aboutOver (below : List Frame) : State where
  vm := { classes := classes, interned := interned.toArray }
  heap := heap
  slotsUsed := slotsUsed
  threads := #[{ frames := .invoking theMethod args0 :: below }]
def below0 : List Frame := [.native { method := ⟨0, 0⟩, args := #[] }]
def about1 : State := aboutOver below0
def p0 : Program := .bare "" "" ""
def e0 : Env := launch0.env 0 0 0
theorem w_frames : about1.frames = Frame.invoking theMethod args0 :: below0 := rfl
set_option maxRecDepth 65536 in
theorem w_args : argsFit about1.vm theMethod args0 = true := by decide +kernel
set_option maxRecDepth 65536 in
theorem w_heap : heapFits about1 = true := by decide +kernel
set_option maxRecDepth 65536 in
theorem w_runnable : about1.curStatus? = some .runnable := by decide +kernel
set_option maxRecDepth 65536 in
theorem w_alone : about1.alone = true := by decide +kernel
set_option maxRecDepth 65536 in
theorem w_named : about1.methodNamed? x = some theMethod := by decide +kernel
set_option maxRecDepth 65536 in
theorem w_hears : about1.hears theMethod below0 = true := by decide +kernel
set_option maxRecDepth 65536 in
theorem w_ripe : about1.ripe theMethod args0 below0 = true := by decide +kernel
theorem w_running : about1.status = .running := rfl
set_option maxRecDepth 65536 in
theorem w_room : about1.hasRoom e0.platform room_1 = true :=
  launch0.hasRoom_least _ room_1 (by decide +kernel) (by decide +kernel) (by decide +kernel) (by decide +kernel) (by decide +kernel) (by decide +kernel)
theorem allAtoms_all (ts : List Jvm.Cond) (a : Array Jvm.Value) (st : Jvm.State) : (allAtoms ts).before a st = ts.all (fun c => c.before a st) := by
  induction ts with
  | nil => rfl
  | cons c t ih =>
    show (Jvm.Cond.and c (allAtoms t)).before a st = _
    rw [Jvm.Cond.before_and, ih, List.all_cons]
def words1 : List Jvm.Cond := Jvm.Cond.code x code maxLocals ret :: tables_1
/-- a 'code' word, met by the world's own term for the bytes: nothing is compared byte by byte -/
theorem code_word {y : MethodName} {bytes : ByteArray} {mx : Nat} {rt : Option FieldType} {a : Array Value} {s : State} {m : MethodId} {meth : Method} {c : Code} (h1 : s.methodNamed? y = some m) (h2 : s.vm.method? m = some meth) (h3 : meth.code = some c) (h4 : c.code = bytes)
    (h5 : (c.maxLocals == mx && c.exceptionTable.isEmpty && decide (c.maxStack ≤ mostOperands) && decide (meth.sig.returnType = rt) && !meth.locks && decide (parseMethodDescriptor y.desc = some meth.sig)) = true) : (Jvm.Cond.code y bytes mx rt).before a s = true := by
  simp only [Bool.and_eq_true, beq_iff_eq, Bool.not_eq_true', decide_eq_true_eq] at h5
  obtain ⟨⟨⟨⟨⟨g1, g2⟩, g3⟩, g4⟩, g5⟩, g6⟩ := h5
  simp [Cond.before, Cond.holds, Cond.value, h1, h2, h3, h4, g1, g2, g3, g4, g5, g6]
def isCode : Jvm.Cond → Bool
  | .code _ _ _ _ => true
  | _ => false
theorem all_split {L : List Jvm.Cond} {P : Jvm.Cond → Bool} (h1 : L.all (fun c => isCode c || P c) = true) (h2 : ∀ c ∈ L.filter isCode, P c = true) : L.all P = true := by
  refine List.all_eq_true.mpr fun c hc => ?_
  have h := List.all_eq_true.mp h1 c hc
  rcases Bool.eq_false_or_eq_true (isCode c) with hi | hi
  · exact h2 c (List.mem_filter.mpr ⟨hc, hi⟩)
  · simpa [hi] using h
set_option maxRecDepth 65536 in
theorem w_c0 : (Jvm.Cond.code x code maxLocals ret).before args0 about1 = true := code_word (m := ⟨1, 3⟩) (meth := k1m3) (c := k1c3) (by decide +kernel) rfl rfl rfl (by decide +kernel)
set_option maxRecDepth 65536 in
theorem w_c1 : (Jvm.Cond.code ({ cls := "com/example/events_in_order/eventsinorder/model/TopicEqualsPinLaw", name := "ch", desc := "(II)C" } : Jvm.MethodName) method_2_code (2 : Nat) (Option.some Jvm.ClassFile.FieldType.char)).before args0 about1 = true := code_word (m := ⟨1, 1⟩) (meth := k1m1) (c := k1c1) (by decide +kernel) rfl rfl rfl (by decide +kernel)
set_option maxRecDepth 65536 in
theorem w_c2 : (Jvm.Cond.code ({ cls := "com/example/events_in_order/eventsinorder/model/TopicEqualsPinLaw", name := "name", desc := "(ICCC)Ljava/lang/String;" } : Jvm.MethodName) method_3_code (4 : Nat) (Option.some (Jvm.ClassFile.FieldType.object "java/lang/String"))).before args0 about1 = true := code_word (m := ⟨1, 2⟩) (meth := k1m2) (c := k1c2) (by decide +kernel) rfl rfl rfl (by decide +kernel)
set_option maxRecDepth 65536 in
theorem w_c3 : (Jvm.Cond.code ({ cls := "java/lang/String", name := "<init>", desc := "([C)V" } : Jvm.MethodName) jdk_42_method_3_code (2 : Nat) (Option.none : Option Jvm.ClassFile.FieldType)).before args0 about1 = true := code_word (m := ⟨7, 1⟩) (meth := k7m1) (c := k7c1) (by decide +kernel) rfl rfl rfl (by decide +kernel)
set_option maxRecDepth 65536 in
theorem w_c4 : (Jvm.Cond.code ({ cls := "java/lang/String", name := "<init>", desc := "([CIILjava/lang/Void;)V" } : Jvm.MethodName) jdk_42_method_149_code (6 : Nat) (Option.none : Option Jvm.ClassFile.FieldType)).before args0 about1 = true := code_word (m := ⟨7, 9⟩) (meth := k7m9) (c := k7c9) (by decide +kernel) rfl rfl rfl (by decide +kernel)
set_option maxRecDepth 65536 in
theorem w_c5 : (Jvm.Cond.code ({ cls := "java/lang/Object", name := "<init>", desc := "()V" } : Jvm.MethodName) object_method_1_code (1 : Nat) (Option.none : Option Jvm.ClassFile.FieldType)).before args0 about1 = true := code_word (m := ⟨0, 0⟩) (meth := k0m0) (c := k0c0) (by decide +kernel) rfl rfl rfl (by decide +kernel)
set_option maxRecDepth 65536 in
theorem w_c6 : (Jvm.Cond.code ({ cls := "java/lang/StringUTF16", name := "compress", desc := "([CII)[B" } : Jvm.MethodName) jdk_52_method_16_code (6 : Nat) (Option.some (Jvm.ClassFile.FieldType.array Jvm.ClassFile.FieldType.byte))).before args0 about1 = true := code_word (m := ⟨8, 2⟩) (meth := k8m2) (c := k8c2) (by decide +kernel) rfl rfl rfl (by decide +kernel)
set_option maxRecDepth 65536 in
theorem w_c7 : (Jvm.Cond.code ({ cls := "java/lang/StringUTF16", name := "compress", desc := "([CI[BII)I" } : Jvm.MethodName) jdk_52_method_21_code (7 : Nat) (Option.some Jvm.ClassFile.FieldType.int)).before args0 about1 = true := code_word (m := ⟨8, 3⟩) (meth := k8m3) (c := k8c3) (by decide +kernel) rfl rfl rfl (by decide +kernel)
set_option maxRecDepth 65536 in
theorem w_c8 : (Jvm.Cond.code ({ cls := "java/lang/StringUTF16", name := "coderFromArrayLen", desc := "([BI)B" } : Jvm.MethodName) jdk_52_method_15_code (2 : Nat) (Option.some Jvm.ClassFile.FieldType.byte)).before args0 about1 = true := code_word (m := ⟨8, 1⟩) (meth := k8m1) (c := k8c1) (by decide +kernel) rfl rfl rfl (by decide +kernel)
set_option maxRecDepth 65536 in
theorem w_c9 : (Jvm.Cond.code ({ cls := "com/example/events_in_order/eventsinorder/model/Topic", name := "<init>", desc := "(Ljava/lang/String;)V" } : Jvm.MethodName) prog_43_method_1_code (5 : Nat) (Option.none : Option Jvm.ClassFile.FieldType)).before args0 about1 = true := code_word (m := ⟨9, 0⟩) (meth := k9m0) (c := k9c0) (by decide +kernel) rfl rfl rfl (by decide +kernel)
set_option maxRecDepth 65536 in
theorem w_c10 : (Jvm.Cond.code ({ cls := "java/util/Objects", name := "requireNonNull", desc := "(Ljava/lang/Object;Ljava/lang/String;)Ljava/lang/Object;" } : Jvm.MethodName) jdk_31_method_11_code (2 : Nat) (Option.some (Jvm.ClassFile.FieldType.object "java/lang/Object"))).before args0 about1 = true := code_word (m := ⟨10, 1⟩) (meth := k10m1) (c := k10c1) (by decide +kernel) rfl rfl rfl (by decide +kernel)
set_option maxRecDepth 65536 in
theorem w_c11 : (Jvm.Cond.code ({ cls := "java/lang/String", name := "isEmpty", desc := "()Z" } : Jvm.MethodName) jdk_42_method_55_code (1 : Nat) (Option.some Jvm.ClassFile.FieldType.boolean)).before args0 about1 = true := code_word (m := ⟨7, 5⟩) (meth := k7m5) (c := k7c5) (by decide +kernel) rfl rfl rfl (by decide +kernel)
set_option maxRecDepth 65536 in
theorem w_c12 : (Jvm.Cond.code ({ cls := "java/lang/String", name := "charAt", desc := "(I)C" } : Jvm.MethodName) jdk_42_method_56_code (2 : Nat) (Option.some Jvm.ClassFile.FieldType.char)).before args0 about1 = true := code_word (m := ⟨7, 6⟩) (meth := k7m6) (c := k7c6) (by decide +kernel) rfl rfl rfl (by decide +kernel)
set_option maxRecDepth 65536 in
theorem w_c13 : (Jvm.Cond.code ({ cls := "java/lang/String", name := "isLatin1", desc := "()Z" } : Jvm.MethodName) jdk_42_method_154_code (1 : Nat) (Option.some Jvm.ClassFile.FieldType.boolean)).before args0 about1 = true := code_word (m := ⟨7, 11⟩) (meth := k7m11) (c := k7c11) (by decide +kernel) rfl rfl rfl (by decide +kernel)
set_option maxRecDepth 65536 in
theorem w_c14 : (Jvm.Cond.code ({ cls := "java/lang/StringLatin1", name := "charAt", desc := "([BI)C" } : Jvm.MethodName) jdk_43_method_2_code (2 : Nat) (Option.some Jvm.ClassFile.FieldType.char)).before args0 about1 = true := code_word (m := ⟨11, 1⟩) (meth := k11m1) (c := k11c1) (by decide +kernel) rfl rfl rfl (by decide +kernel)
set_option maxRecDepth 65536 in
theorem w_c15 : (Jvm.Cond.code ({ cls := "java/lang/String", name := "checkIndex", desc := "(II)V" } : Jvm.MethodName) jdk_42_method_155_code (2 : Nat) (Option.none : Option Jvm.ClassFile.FieldType)).before args0 about1 = true := code_word (m := ⟨7, 12⟩) (meth := k7m12) (c := k7c12) (by decide +kernel) rfl rfl rfl (by decide +kernel)
set_option maxRecDepth 65536 in
theorem w_c16 : (Jvm.Cond.code ({ cls := "jdk/internal/util/Preconditions", name := "checkIndex", desc := "(IILjava/util/function/BiFunction;)I" } : Jvm.MethodName) jdk_41_method_11_code (3 : Nat) (Option.some Jvm.ClassFile.FieldType.int)).before args0 about1 = true := code_word (m := ⟨12, 1⟩) (meth := k12m1) (c := k12c1) (by decide +kernel) rfl rfl rfl (by decide +kernel)
set_option maxRecDepth 65536 in
theorem w_c17 : (Jvm.Cond.code ({ cls := "java/lang/String", name := "length", desc := "()I" } : Jvm.MethodName) jdk_42_method_54_code (1 : Nat) (Option.some Jvm.ClassFile.FieldType.int)).before args0 about1 = true := code_word (m := ⟨7, 4⟩) (meth := k7m4) (c := k7c4) (by decide +kernel) rfl rfl rfl (by decide +kernel)
set_option maxRecDepth 65536 in
theorem w_c18 : (Jvm.Cond.code ({ cls := "java/lang/String", name := "coder", desc := "()B" } : Jvm.MethodName) jdk_42_method_152_code (1 : Nat) (Option.some Jvm.ClassFile.FieldType.byte)).before args0 about1 = true := code_word (m := ⟨7, 10⟩) (meth := k7m10) (c := k7c10) (by decide +kernel) rfl rfl rfl (by decide +kernel)
set_option maxRecDepth 65536 in
theorem w_c19 : (Jvm.Cond.code ({ cls := "java/lang/String", name := "getBytes", desc := "(Ljava/nio/charset/Charset;)[B" } : Jvm.MethodName) jdk_42_method_64_code (2 : Nat) (Option.some (Jvm.ClassFile.FieldType.array Jvm.ClassFile.FieldType.byte))).before args0 about1 = true := code_word (m := ⟨7, 7⟩) (meth := k7m7) (c := k7c7) (by decide +kernel) rfl rfl rfl (by decide +kernel)
set_option maxRecDepth 65536 in
theorem w_c20 : (Jvm.Cond.code ({ cls := "java/lang/String", name := "encode", desc := "(Ljava/nio/charset/Charset;B[B)[B" } : Jvm.MethodName) jdk_42_method_18_code (3 : Nat) (Option.some (Jvm.ClassFile.FieldType.array Jvm.ClassFile.FieldType.byte))).before args0 about1 = true := code_word (m := ⟨7, 2⟩) (meth := k7m2) (c := k7c2) (by decide +kernel) rfl rfl rfl (by decide +kernel)
set_option maxRecDepth 65536 in
theorem w_c21 : (Jvm.Cond.code ({ cls := "java/lang/String", name := "encodeUTF8", desc := "(B[BZ)[B" } : Jvm.MethodName) jdk_42_method_46_code (9 : Nat) (Option.some (Jvm.ClassFile.FieldType.array Jvm.ClassFile.FieldType.byte))).before args0 about1 = true := code_word (m := ⟨7, 3⟩) (meth := k7m3) (c := k7c3) (by decide +kernel) rfl rfl rfl (by decide +kernel)
set_option maxRecDepth 65536 in
theorem w_c22 : (Jvm.Cond.code ({ cls := "java/lang/StringCoding", name := "hasNegatives", desc := "([BII)Z" } : Jvm.MethodName) jdk_123_method_2_code (3 : Nat) (Option.some Jvm.ClassFile.FieldType.boolean)).before args0 about1 = true := code_word (m := ⟨18, 1⟩) (meth := k18m1) (c := k18c1) (by decide +kernel) rfl rfl rfl (by decide +kernel)
set_option maxRecDepth 65536 in
theorem w_c23 : (Jvm.Cond.code ({ cls := "java/lang/StringCoding", name := "countPositives", desc := "([BII)I" } : Jvm.MethodName) jdk_123_method_3_code (5 : Nat) (Option.some Jvm.ClassFile.FieldType.int)).before args0 about1 = true := code_word (m := ⟨18, 2⟩) (meth := k18m2) (c := k18c2) (by decide +kernel) rfl rfl rfl (by decide +kernel)
set_option maxRecDepth 65536 in
theorem w_c24 : (Jvm.Cond.code ({ cls := "com/example/events_in_order/eventsinorder/model/Topic", name := "equals", desc := "(Ljava/lang/Object;)Z" } : Jvm.MethodName) prog_43_method_12_code (2 : Nat) (Option.some Jvm.ClassFile.FieldType.boolean)).before args0 about1 = true := code_word (m := ⟨9, 1⟩) (meth := k9m1) (c := k9c1) (by decide +kernel) rfl rfl rfl (by decide +kernel)
set_option maxRecDepth 65536 in
theorem w_c25 : (Jvm.Cond.code ({ cls := "java/lang/String", name := "equals", desc := "(Ljava/lang/Object;)Z" } : Jvm.MethodName) jdk_42_method_66_code (3 : Nat) (Option.some Jvm.ClassFile.FieldType.boolean)).before args0 about1 = true := code_word (m := ⟨7, 8⟩) (meth := k7m8) (c := k7c8) (by decide +kernel) rfl rfl rfl (by decide +kernel)
set_option maxRecDepth 65536 in
theorem w_c26 : (Jvm.Cond.code ({ cls := "java/lang/StringLatin1", name := "equals", desc := "([B[B)Z" } : Jvm.MethodName) jdk_43_method_13_code (3 : Nat) (Option.some Jvm.ClassFile.FieldType.boolean)).before args0 about1 = true := code_word (m := ⟨11, 2⟩) (meth := k11m2) (c := k11c2) (by decide +kernel) rfl rfl rfl (by decide +kernel)
def codes1 : List Jvm.Cond := [Jvm.Cond.code x code maxLocals ret, Jvm.Cond.code ({ cls := "com/example/events_in_order/eventsinorder/model/TopicEqualsPinLaw", name := "ch", desc := "(II)C" } : Jvm.MethodName) method_2_code (2 : Nat) (Option.some Jvm.ClassFile.FieldType.char), Jvm.Cond.code ({ cls := "com/example/events_in_order/eventsinorder/model/TopicEqualsPinLaw", name := "name", desc := "(ICCC)Ljava/lang/String;" } : Jvm.MethodName) method_3_code (4 : Nat) (Option.some (Jvm.ClassFile.FieldType.object "java/lang/String")), Jvm.Cond.code ({ cls := "java/lang/String", name := "<init>", desc := "([C)V" } : Jvm.MethodName) jdk_42_method_3_code (2 : Nat) (Option.none : Option Jvm.ClassFile.FieldType), Jvm.Cond.code ({ cls := "java/lang/String", name := "<init>", desc := "([CIILjava/lang/Void;)V" } : Jvm.MethodName) jdk_42_method_149_code (6 : Nat) (Option.none : Option Jvm.ClassFile.FieldType), Jvm.Cond.code ({ cls := "java/lang/Object", name := "<init>", desc := "()V" } : Jvm.MethodName) object_method_1_code (1 : Nat) (Option.none : Option Jvm.ClassFile.FieldType), Jvm.Cond.code ({ cls := "java/lang/StringUTF16", name := "compress", desc := "([CII)[B" } : Jvm.MethodName) jdk_52_method_16_code (6 : Nat) (Option.some (Jvm.ClassFile.FieldType.array Jvm.ClassFile.FieldType.byte)), Jvm.Cond.code ({ cls := "java/lang/StringUTF16", name := "compress", desc := "([CI[BII)I" } : Jvm.MethodName) jdk_52_method_21_code (7 : Nat) (Option.some Jvm.ClassFile.FieldType.int), Jvm.Cond.code ({ cls := "java/lang/StringUTF16", name := "coderFromArrayLen", desc := "([BI)B" } : Jvm.MethodName) jdk_52_method_15_code (2 : Nat) (Option.some Jvm.ClassFile.FieldType.byte), Jvm.Cond.code ({ cls := "com/example/events_in_order/eventsinorder/model/Topic", name := "<init>", desc := "(Ljava/lang/String;)V" } : Jvm.MethodName) prog_43_method_1_code (5 : Nat) (Option.none : Option Jvm.ClassFile.FieldType), Jvm.Cond.code ({ cls := "java/util/Objects", name := "requireNonNull", desc := "(Ljava/lang/Object;Ljava/lang/String;)Ljava/lang/Object;" } : Jvm.MethodName) jdk_31_method_11_code (2 : Nat) (Option.some (Jvm.ClassFile.FieldType.object "java/lang/Object")), Jvm.Cond.code ({ cls := "java/lang/String", name := "isEmpty", desc := "()Z" } : Jvm.MethodName) jdk_42_method_55_code (1 : Nat) (Option.some Jvm.ClassFile.FieldType.boolean), Jvm.Cond.code ({ cls := "java/lang/String", name := "charAt", desc := "(I)C" } : Jvm.MethodName) jdk_42_method_56_code (2 : Nat) (Option.some Jvm.ClassFile.FieldType.char), Jvm.Cond.code ({ cls := "java/lang/String", name := "isLatin1", desc := "()Z" } : Jvm.MethodName) jdk_42_method_154_code (1 : Nat) (Option.some Jvm.ClassFile.FieldType.boolean), Jvm.Cond.code ({ cls := "java/lang/StringLatin1", name := "charAt", desc := "([BI)C" } : Jvm.MethodName) jdk_43_method_2_code (2 : Nat) (Option.some Jvm.ClassFile.FieldType.char), Jvm.Cond.code ({ cls := "java/lang/String", name := "checkIndex", desc := "(II)V" } : Jvm.MethodName) jdk_42_method_155_code (2 : Nat) (Option.none : Option Jvm.ClassFile.FieldType), Jvm.Cond.code ({ cls := "jdk/internal/util/Preconditions", name := "checkIndex", desc := "(IILjava/util/function/BiFunction;)I" } : Jvm.MethodName) jdk_41_method_11_code (3 : Nat) (Option.some Jvm.ClassFile.FieldType.int), Jvm.Cond.code ({ cls := "java/lang/String", name := "length", desc := "()I" } : Jvm.MethodName) jdk_42_method_54_code (1 : Nat) (Option.some Jvm.ClassFile.FieldType.int), Jvm.Cond.code ({ cls := "java/lang/String", name := "coder", desc := "()B" } : Jvm.MethodName) jdk_42_method_152_code (1 : Nat) (Option.some Jvm.ClassFile.FieldType.byte), Jvm.Cond.code ({ cls := "java/lang/String", name := "getBytes", desc := "(Ljava/nio/charset/Charset;)[B" } : Jvm.MethodName) jdk_42_method_64_code (2 : Nat) (Option.some (Jvm.ClassFile.FieldType.array Jvm.ClassFile.FieldType.byte)), Jvm.Cond.code ({ cls := "java/lang/String", name := "encode", desc := "(Ljava/nio/charset/Charset;B[B)[B" } : Jvm.MethodName) jdk_42_method_18_code (3 : Nat) (Option.some (Jvm.ClassFile.FieldType.array Jvm.ClassFile.FieldType.byte)), Jvm.Cond.code ({ cls := "java/lang/String", name := "encodeUTF8", desc := "(B[BZ)[B" } : Jvm.MethodName) jdk_42_method_46_code (9 : Nat) (Option.some (Jvm.ClassFile.FieldType.array Jvm.ClassFile.FieldType.byte)), Jvm.Cond.code ({ cls := "java/lang/StringCoding", name := "hasNegatives", desc := "([BII)Z" } : Jvm.MethodName) jdk_123_method_2_code (3 : Nat) (Option.some Jvm.ClassFile.FieldType.boolean), Jvm.Cond.code ({ cls := "java/lang/StringCoding", name := "countPositives", desc := "([BII)I" } : Jvm.MethodName) jdk_123_method_3_code (5 : Nat) (Option.some Jvm.ClassFile.FieldType.int), Jvm.Cond.code ({ cls := "com/example/events_in_order/eventsinorder/model/Topic", name := "equals", desc := "(Ljava/lang/Object;)Z" } : Jvm.MethodName) prog_43_method_12_code (2 : Nat) (Option.some Jvm.ClassFile.FieldType.boolean), Jvm.Cond.code ({ cls := "java/lang/String", name := "equals", desc := "(Ljava/lang/Object;)Z" } : Jvm.MethodName) jdk_42_method_66_code (3 : Nat) (Option.some Jvm.ClassFile.FieldType.boolean), Jvm.Cond.code ({ cls := "java/lang/StringLatin1", name := "equals", desc := "([B[B)Z" } : Jvm.MethodName) jdk_43_method_13_code (3 : Nat) (Option.some Jvm.ClassFile.FieldType.boolean)]
set_option maxRecDepth 65536 in
theorem codes_eq : words1.filter isCode = codes1 := rfl
theorem w_codes : ∀ c ∈ words1.filter isCode, c.before args0 about1 = true := by
  rw [codes_eq]
  intro c hc
  simp only [codes1, List.mem_cons, List.not_mem_nil, or_false] at hc
  rcases hc with rfl | rfl | rfl | rfl | rfl | rfl | rfl | rfl | rfl | rfl | rfl | rfl | rfl | rfl | rfl | rfl | rfl | rfl | rfl | rfl | rfl | rfl | rfl | rfl | rfl | rfl | rfl
  · exact w_c0
  · exact w_c1
  · exact w_c2
  · exact w_c3
  · exact w_c4
  · exact w_c5
  · exact w_c6
  · exact w_c7
  · exact w_c8
  · exact w_c9
  · exact w_c10
  · exact w_c11
  · exact w_c12
  · exact w_c13
  · exact w_c14
  · exact w_c15
  · exact w_c16
  · exact w_c17
  · exact w_c18
  · exact w_c19
  · exact w_c20
  · exact w_c21
  · exact w_c22
  · exact w_c23
  · exact w_c24
  · exact w_c25
  · exact w_c26
set_option maxRecDepth 65536 in
theorem w_t1 : (words1.take 24).all (fun c => isCode c || c.before args0 about1) = true := by decide +kernel
set_option maxRecDepth 65536 in
theorem w_t2 : ((words1.drop 24).take 24).all (fun c => isCode c || c.before args0 about1) = true := by decide +kernel
set_option maxRecDepth 65536 in
theorem w_t3 : (((words1.drop 24).drop 24).take 24).all (fun c => isCode c || c.before args0 about1) = true := by decide +kernel
set_option maxRecDepth 65536 in
theorem w_t4 : ((((words1.drop 24).drop 24).drop 24).take 24).all (fun c => isCode c || c.before args0 about1) = true := by decide +kernel
set_option maxRecDepth 65536 in
theorem w_t5 : (((((words1.drop 24).drop 24).drop 24).drop 24).take 24).all (fun c => isCode c || c.before args0 about1) = true := by decide +kernel
set_option maxRecDepth 65536 in
theorem w_t6 : (((((words1.drop 24).drop 24).drop 24).drop 24).drop 24).all (fun c => isCode c || c.before args0 about1) = true := by decide +kernel
theorem w_tables : (allAtoms (Jvm.Cond.code x code maxLocals ret :: tables_1)).before args0 about1 = true := by
  rw [allAtoms_all]
  show words1.all (fun c => c.before args0 about1) = true
  refine all_split ?_ w_codes
  rw [← List.take_append_drop 24 words1, List.all_append, w_t1, ← List.take_append_drop 24 (words1.drop 24), List.all_append, w_t2, ← List.take_append_drop 24 ((words1.drop 24).drop 24), List.all_append, w_t3, ← List.take_append_drop 24 (((words1.drop 24).drop 24).drop 24), List.all_append, w_t4, ← List.take_append_drop 24 ((((words1.drop 24).drop 24).drop 24).drop 24), List.all_append, w_t5, w_t6]
  rfl
set_option maxRecDepth 65536 in
theorem w_rest : rest_1_c.before args0 about1 = true := by decide +kernel
set_option maxRecDepth 65536 in
theorem w_case : (Jvm.Cond.and given_1 narrow_1).before args0 about1 = true := by decide +kernel
theorem w_applies : (headSpec (Jvm.Cond.code x code maxLocals ret :: tables_1) room_1).applies x e0.platform about1 = true :=
  (Spec.applies_iff w_frames).mpr ⟨w_running, w_runnable, w_alone, w_named, w_hears, w_ripe, w_room, w_tables⟩
theorem atStart : AtStart classFile x code maxLocals ret World_1 tables_1 room_1 Calls_1 rest_1 Pre_1 launch0 p0 e0 about1 theMethod args0 below0 :=
  ⟨lists_1, trivial, launch0.admits_env _ _ _, launch0.least_env, fairChoices_fair.cas, fairChoices_fair.clock, w_frames, w_args, w_heap, w_applies, trivial, w_rest, w_case⟩
end start1
theorem witness_1 : WitnessClaimed_1 := ⟨start1.p0, start1.e0, start1.about1, start1.theMethod, start1.args0, start1.below0, start1.atStart⟩
end Jvm.Pilot.@@N@@
