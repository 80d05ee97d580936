import JvmDerived
import JvmDerived.Pilot.@@N@@Statement
import JvmDerived.Pilot.@@N@@Code
set_option linter.unusedVariables false
set_option linter.unusedSimpArgs false
namespace Jvm.Pilot.@@N@@
open Jvm Jvm.ClassFile Sem Op Lib Jvm.Free Jvm.Stand Jvm.LawKit Jvm.RoadKit Bundle Jvm.Pilot.@@N@@.Jvm.D
abbrev own_Ends (p : Program) (e : Env) (below : List Frame) (T : State) (g : JFrame) (Q : Outcome → State → Prop) : Prop :=
  ∃ s₂ o, Steps p.tables e below (T.setTop g) s₂ ∧ s₂.status = .running ∧ Ended s₂ below o ∧ Q o s₂
section Own
variable {p : Program} {l : Launch} {e : Env} {R : Room} {s : State} {m : MethodId} {args : Array Value} {below : List Frame} {meth : Method} {c : Code} {T T' : State} {locs : List Loc} {cells slots : Nat}
theorem own_go {g g' : JFrame} {Q : Outcome → State → Prop} (h : ∀ t, Steps p.tables e below (T'.setTop g') t → Steps p.tables e below (T.setTop g) t) (k : own_Ends p e below T' g' Q) : own_Ends p e below T g Q := by
  obtain ⟨s₂, o, h1, h2⟩ := k
  exact ⟨s₂, o, h _ h1, h2⟩
theorem own_start {g g' : JFrame} {Q : Outcome → State → Prop} (h : g = g') (k : own_Ends p e below T g' Q) : own_Ends p e below T g Q := h ▸ k
theorem own_ret (X : Stand p l e R s m args below meth c T locs cells slots) (hlk : meth.locks = false) (hx : p.tables.exec = Jvm.exec) {pc : Nat} {Ls : Array Slot} {w : Value} {t : FieldType} {i : Instr} {rest : List Value} (hret : meth.sig.returnType = some t) (hn : narrow t w = w)
    (hi : (i = .ireturn ∧ (t = .int ∨ t = .boolean ∨ t = .byte ∨ t = .char ∨ t = .short) ∧ ∃ z, w = .int z) ∨ (i = .lreturn ∧ t = .long ∧ ∃ z, w = .long z) ∨ (i = .dreturn ∧ t = .double ∧ ∃ z, w = .double z) ∨ (i = .freturn ∧ t = .float ∧ ∃ z, w = .float z) ∨ (i = .areturn ∧ t.isReference = true ∧ w.isRef = true))
    (hd : decode c.code pc = .ok (i, 1)) {Qv : Option Value → Heap → List Loc → Prop} {C S : Nat} (hq : Qv (some w) T.heap locs) (hc : cells ≤ C) (hs : slots ≤ S) :
    own_Ends p e below T (mkF m pc Ls (w :: rest)) (fun o U' => ∃ v L, o = .returned v ∧ Qv v U'.heap L ∧ FrameEnd s o U' L C S) := by
  obtain ⟨fs, hr, hrun, hended, hW, hsame⟩ := X.leave (v := some w) (fun h => by rw [hret] at h; cases h) hlk
  exact ⟨_, _, retOut X hx hret hn hi hd hr, hrun, hended, _, _, rfl, hq, ⟨_, rfl⟩, hW, hsame.mono hc hs⟩
theorem own_ret0 (X : Stand p l e R s m args below meth c T locs cells slots) (hlk : meth.locks = false) (hx : p.tables.exec = Jvm.exec) {pc : Nat} {Ls : Array Slot} (hret : meth.sig.returnType = none)
    (hd : decode c.code pc = .ok (.return_, 1)) {Qv : Option Value → Heap → List Loc → Prop} {C S : Nat} (hq : Qv none T.heap locs) (hc : cells ≤ C) (hs : slots ≤ S) :
    own_Ends p e below T (mkF m pc Ls []) (fun o U' => ∃ v L, o = .returned v ∧ Qv v U'.heap L ∧ FrameEnd s o U' L C S) := by
  obtain ⟨fs, hr, hrun, hended, hW, hsame⟩ := X.leave (v := none) (fun _ => rfl) hlk
  exact ⟨_, _, X.returnOut hx hret hd hr, hrun, hended, _, _, rfl, hq, ⟨_, rfl⟩, hW, hsame.mono hc hs⟩
theorem own_nr {t : FieldType} {v : Value} (h : v.isRef = true) : narrow t v = v := by cases v <;> first | (cases h; done) | (cases t <;> rfl)
end Own
theorem own_retW {p : Program} {l : Launch} {e : Env} {R : Room} {s : State} {m : MethodId} {args : Array Value} {below : List Frame} {meth : Method} {c : Code} {T : State} {locs : List Loc} {cells slots : Nat} {vm₁ : Vm} (X : Stand p l e R (s.setVm vm₁) m args below meth c T locs cells slots) {n : Nat} (hS : s.Since vm₁ n) (hn' : n ≤ T.heap.size) (hlk : meth.locks = false) (hx : p.tables.exec = Jvm.exec) {pc : Nat} {Ls : Array Slot} {w : Value} {t : FieldType} {i : Instr} {rest : List Value} (hret : meth.sig.returnType = some t) (hn : narrow t w = w)
    (hi : (i = .ireturn ∧ (t = .int ∨ t = .boolean ∨ t = .byte ∨ t = .char ∨ t = .short) ∧ ∃ z, w = .int z) ∨ (i = .lreturn ∧ t = .long ∧ ∃ z, w = .long z) ∨ (i = .dreturn ∧ t = .double ∧ ∃ z, w = .double z) ∨ (i = .freturn ∧ t = .float ∧ ∃ z, w = .float z) ∨ (i = .areturn ∧ t.isReference = true ∧ w.isRef = true))
    (hd : decode c.code pc = .ok (i, 1)) {Qv : Option Value → Heap → List Loc → Prop} {C S : Nat} (hq : Qv (some w) T.heap locs) (hc : cells ≤ C) (hs : slots ≤ S) :
    own_Ends p e below T (mkF m pc Ls (w :: rest)) (fun o U' => ∃ v L, o = .returned v ∧ Qv v U'.heap L ∧ ReturnedEndW s o U' L C S) := by
  obtain ⟨fs, hr, hrun, hended, h1, h2, h3, h4⟩ := X.leaveW hS hn' (v := some w) (fun h => by rw [hret] at h; cases h) hlk
  exact ⟨_, _, retOut X hx hret hn hi hd hr, hrun, hended, _, _, rfl, hq, h1, h2, h3, h4.mono hc hs⟩
theorem own_ret0W {p : Program} {l : Launch} {e : Env} {R : Room} {s : State} {m : MethodId} {args : Array Value} {below : List Frame} {meth : Method} {c : Code} {T : State} {locs : List Loc} {cells slots : Nat} {vm₁ : Vm} (X : Stand p l e R (s.setVm vm₁) m args below meth c T locs cells slots) {n : Nat} (hS : s.Since vm₁ n) (hn' : n ≤ T.heap.size) (hlk : meth.locks = false) (hx : p.tables.exec = Jvm.exec) {pc : Nat} {Ls : Array Slot} (hret : meth.sig.returnType = none)
    (hd : decode c.code pc = .ok (.return_, 1)) {Qv : Option Value → Heap → List Loc → Prop} {C S : Nat} (hq : Qv none T.heap locs) (hc : cells ≤ C) (hs : slots ≤ S) :
    own_Ends p e below T (mkF m pc Ls []) (fun o U' => ∃ v L, o = .returned v ∧ Qv v U'.heap L ∧ ReturnedEndW s o U' L C S) := by
  obtain ⟨fs, hr, hrun, hended, h1, h2, h3, h4⟩ := X.leaveW hS hn' (v := none) (fun _ => rfl) hlk
  exact ⟨_, _, X.returnOut hx hret hd hr, hrun, hended, _, _, rfl, hq, h1, h2, h3, h4.mono hc hs⟩
def own_min (a b : Int64) : Int64 := if b < a then b else a
def own_max (a b : Int64) : Int64 := if a < b then b else a
def own_in (v lo hi : Int64) : Int32 := if hi < lo then 0 else if own_max lo (own_min v hi) = v then 1 else 0
def own_ref (r c a b d e : Int64) : Int32 := if own_in r a b = 0 then 0 else if own_in c d e = 0 then 0 else 1
def own_cont (r c a b d e : Int64) : Int32 := if r < a then 0 else if b < r then 0 else if c < d then 0 else if e < c then 0 else 1
theorem own_in_eq (v lo hi : Int64) : own_in v lo hi = if v < lo then 0 else if hi < v then 0 else 1 := by
  unfold own_in own_max own_min
  simp only [Int64.lt_iff_toInt_lt, ← Int64.toInt_inj]
  by_cases ha : hi.toInt < v.toInt <;> by_cases hb : lo.toInt < v.toInt <;> by_cases hc : lo.toInt < hi.toInt <;> by_cases hd : v.toInt < lo.toInt <;> by_cases he : hi.toInt < lo.toInt <;> simp [ha, hb, hc, hd, he] <;> omega
theorem own_key (r c a b d e : Int64) : own_cont r c a b d e = own_ref r c a b d e := by
  unfold own_ref own_cont
  rw [own_in_eq, own_in_eq]
  by_cases h1 : r < a <;> by_cases h2 : b < r <;> by_cases h3 : c < d <;> by_cases h4 : e < c <;> simp [h1, h2, h3, h4]

theorem own_d_jdk_30_method_1_code_0 : decode jdk_30_method_1_code 0 = .ok (.aload_n 0, 1) := by decide +kernel
theorem own_d_jdk_30_method_1_code_1 : decode jdk_30_method_1_code 1 = .ok (.invokespecial 1, 3) := by decide +kernel
theorem own_d_jdk_30_method_1_code_4 : decode jdk_30_method_1_code 4 = .ok (.return_, 1) := by decide +kernel
def Q_own_rrec (h0 : Heap) (n0 : Nat) (v : Option Value) (h : Heap) (L : List Loc) : Prop := v = none ∧ L = [] ∧ h = h0
set_option maxRecDepth 65536 in
set_option maxHeartbeats 40000000 in
theorem own_rrec (l : Launch) (Z : State) (a0 : Array Value) (hw : ∀ d ∈ tables_1, d.before a0 Z = true) (ws : List Jvm.Cond) (a : Addr) (h0 : Heap) (n0 : Nat) (Z0 : n0 ≤ h0.size)  :
    MetFree l (⟨"java/lang/Record", "<init>", "()V"⟩ : MethodName) (head1 (Jvm.Cond.code (⟨"java/lang/Record", "<init>", "()V"⟩ : MethodName) jdk_30_method_1_code 1 none :: ws) ({ frames := 1, cells := 0, slots := 0, locals := 12 } : Room)) (fun au Uu => au = #[(.ref a)] ∧ Z.Warmed39 Uu.vm ∧ Uu.heap = h0) (fun _ _ _ _ _ => True) (fun _ Uu ou Uw => ∃ vu Lu, ou = .returned vu ∧ Q_own_rrec h0 n0 vu Uw.heap Lu ∧ FrameEnd Uu ou Uw Lu ({ frames := 1, cells := 0, slots := 0, locals := 12 } : Room).cells ({ frames := 1, cells := 0, slots := 0, locals := 12 } : Room).slots) := by
  refine MetFree.of_bodySF (plainFor_of_name (by first | (simp [plainName, overriddenIn]; done) | decide +kernel)) hisR ?_
  intro p e s m args below meth c s₁ Bd hml0 hP hK
  obtain ⟨rfl, hZ, hh⟩ := hP
  have hx := Bd.exec
  have hby := Bd.bytes
  have hlk := Bd.notSynchronized
  have hml : c.maxLocals = 1 := hml0
  have hown : s.vm.findClass "java/lang/Record" = some m.cls := findClass_of_methodNamed Bd.named
  have hnm := (name_of_methodNamed Bd.named Bd.method).1
  have X0 : Stand p l e ({ frames := 1, cells := 0, slots := 0, locals := 12 } : Room) s m #[(.ref a)] below meth c s₁ [] 0 0 := Stand.of_body Bd
  have e0 : s₁.heap = h0 := by rw [← hh, Bd.state]; rfl
  have N0 := Fr.nil n0
  show own_Ends p e below s₁ (entryFrame m #[(.ref a)] 1) (fun ou Uw => ∃ vu Lu, ou = .returned vu ∧ Q_own_rrec h0 n0 vu Uw.heap Lu ∧ FrameEnd s ou Uw Lu ({ frames := 1, cells := 0, slots := 0, locals := 12 } : Room).cells ({ frames := 1, cells := 0, slots := 0, locals := 12 } : Room).slots)
  refine own_start (g' := (mkF m 0 #[rv a] [])) (by first | (simp [entryFrame, mkF, argsToLocals, Value.category, iv, rv]; done) | rfl) ?_
  refine own_go (T' := s₁) (g' := (mkF m 1 #[rv a] [(.ref a)])) (fun t k => XS.aloadN X0.here hx rfl (hb hby own_d_jdk_30_method_1_code_0) rfl rfl k) ?_
  obtain ⟨T1, X1, e1, st1⟩ := initO X0 hx hZ hown (hw _ (List.mem_of_getElem? (i := 19) rfl)) (hw _ (List.mem_of_getElem? (i := 20) rfl)) (hw _ (List.mem_of_getElem? (i := 21) rfl)) e0 (g := (mkF m 1 #[rv a] [(.ref a)])) rfl (by rw [hml]; rfl) rfl (hb hby own_d_jdk_30_method_1_code_1) (by decide) (W := 0) (by show 2 * 0 + _ ≤ _; exact Nat.le_of_eq rfl) (by decide)
  refine own_go (T' := T1) (g' := (mkF m 4 #[rv a] [])) (st1) ?_
  exact own_ret0 X1 hlk hx Bd.returns (hb hby own_d_jdk_30_method_1_code_4) ⟨rfl, rfl, e1⟩ (by decide) (by decide)

theorem own_pd0 : parseMethodDescriptor "()V" = some ⟨[], none⟩ := by decide +kernel
theorem own_d_prog_9_method_1_code_0 : decode prog_9_method_1_code 0 = .ok (.aload_n 0, 1) := by decide +kernel
theorem own_d_prog_9_method_1_code_1 : decode prog_9_method_1_code 1 = .ok (.invokespecial 1, 3) := by decide +kernel
theorem own_d_prog_9_method_1_code_4 : decode prog_9_method_1_code 4 = .ok (.aload_n 0, 1) := by decide +kernel
theorem own_d_prog_9_method_1_code_5 : decode prog_9_method_1_code 5 = .ok (.aload_n 1, 1) := by decide +kernel
theorem own_d_prog_9_method_1_code_6 : decode prog_9_method_1_code 6 = .ok (.putfield 7, 3) := by decide +kernel
theorem own_d_prog_9_method_1_code_9 : decode prog_9_method_1_code 9 = .ok (.aload_n 0, 1) := by decide +kernel
theorem own_d_prog_9_method_1_code_10 : decode prog_9_method_1_code 10 = .ok (.lload_n 2, 1) := by decide +kernel
theorem own_d_prog_9_method_1_code_11 : decode prog_9_method_1_code 11 = .ok (.putfield 13, 3) := by decide +kernel
theorem own_d_prog_9_method_1_code_14 : decode prog_9_method_1_code 14 = .ok (.aload_n 0, 1) := by decide +kernel
theorem own_d_prog_9_method_1_code_15 : decode prog_9_method_1_code 15 = .ok (.lload 4, 2) := by decide +kernel
theorem own_d_prog_9_method_1_code_17 : decode prog_9_method_1_code 17 = .ok (.putfield 17, 3) := by decide +kernel
theorem own_d_prog_9_method_1_code_20 : decode prog_9_method_1_code 20 = .ok (.aload_n 0, 1) := by decide +kernel
theorem own_d_prog_9_method_1_code_21 : decode prog_9_method_1_code 21 = .ok (.lload 6, 2) := by decide +kernel
theorem own_d_prog_9_method_1_code_23 : decode prog_9_method_1_code 23 = .ok (.putfield 20, 3) := by decide +kernel
theorem own_d_prog_9_method_1_code_26 : decode prog_9_method_1_code 26 = .ok (.aload_n 0, 1) := by decide +kernel
theorem own_d_prog_9_method_1_code_27 : decode prog_9_method_1_code 27 = .ok (.lload 8, 2) := by decide +kernel
theorem own_d_prog_9_method_1_code_29 : decode prog_9_method_1_code 29 = .ok (.putfield 23, 3) := by decide +kernel
theorem own_d_prog_9_method_1_code_32 : decode prog_9_method_1_code 32 = .ok (.return_, 1) := by decide +kernel
def Q_own_rinit (Z : State) (a : Addr) (q1 q2 q3 q4 : Int64) (h0 : Heap) (n0 : Nat) (v : Option Value) (h : Heap) (L : List Loc) : Prop := v = none ∧ Fr n0 L ∧ Keep h0 h [a] ∧ Exa Z h a "com/example/piastrella/piastrella/tiles/TileMatrixLimits" ∧ Fld Z h a "com/example/piastrella/piastrella/tiles/TileMatrixLimits" "minTileRow" "J" (.long q1) ∧ Fld Z h a "com/example/piastrella/piastrella/tiles/TileMatrixLimits" "maxTileRow" "J" (.long q2) ∧ Fld Z h a "com/example/piastrella/piastrella/tiles/TileMatrixLimits" "minTileCol" "J" (.long q3) ∧ Fld Z h a "com/example/piastrella/piastrella/tiles/TileMatrixLimits" "maxTileCol" "J" (.long q4)
set_option maxRecDepth 65536 in
set_option maxHeartbeats 40000000 in
theorem own_rinit (l : Launch) (Z : State) (a0 : Array Value) (hw : ∀ d ∈ tables_1, d.before a0 Z = true) (ws : List Jvm.Cond) (a b : Addr) (q1 q2 q3 q4 : Int64) (h0 : Heap) (n0 : Nat) (Z0 : n0 ≤ h0.size) (E_a : Exa Z h0 a "com/example/piastrella/piastrella/tiles/TileMatrixLimits") (g_a : n0 ≤ a) (F_tm : Fld Z h0 a "com/example/piastrella/piastrella/tiles/TileMatrixLimits" "tileMatrix" "Ljava/lang/String;" .null) (F_minTileRow : Fld Z h0 a "com/example/piastrella/piastrella/tiles/TileMatrixLimits" "minTileRow" "J" (.long 0)) (F_maxTileRow : Fld Z h0 a "com/example/piastrella/piastrella/tiles/TileMatrixLimits" "maxTileRow" "J" (.long 0)) (F_minTileCol : Fld Z h0 a "com/example/piastrella/piastrella/tiles/TileMatrixLimits" "minTileCol" "J" (.long 0)) (F_maxTileCol : Fld Z h0 a "com/example/piastrella/piastrella/tiles/TileMatrixLimits" "maxTileCol" "J" (.long 0)) :
    MetFree l (⟨"com/example/piastrella/piastrella/tiles/TileMatrixLimits", "<init>", "(Ljava/lang/String;JJJJ)V"⟩ : MethodName) (head1 (Jvm.Cond.code (⟨"com/example/piastrella/piastrella/tiles/TileMatrixLimits", "<init>", "(Ljava/lang/String;JJJJ)V"⟩ : MethodName) prog_9_method_1_code 10 none :: ws) ({ frames := 2, cells := 0, slots := 0, locals := 24 } : Room)) (fun au Uu => au = #[(.ref a), (.ref b), (.long q1), (.long q2), (.long q3), (.long q4)] ∧ Z.Warmed39 Uu.vm ∧ Uu.heap = h0) (fun _ _ _ _ _ => True) (fun _ Uu ou Uw => ∃ vu Lu, ou = .returned vu ∧ Q_own_rinit Z a q1 q2 q3 q4 h0 n0 vu Uw.heap Lu ∧ FrameEnd Uu ou Uw Lu ({ frames := 2, cells := 0, slots := 0, locals := 24 } : Room).cells ({ frames := 2, cells := 0, slots := 0, locals := 24 } : Room).slots) := by
  refine MetFree.of_bodySF (plainFor_of_name (by first | (simp [plainName, overriddenIn]; done) | decide +kernel)) hisR ?_
  intro p e s m args below meth c s₁ Bd hml0 hP hK
  obtain ⟨rfl, hZ, hh⟩ := hP
  have hx := Bd.exec
  have hby := Bd.bytes
  have hlk := Bd.notSynchronized
  have hml : c.maxLocals = 10 := hml0
  have hown : s.vm.findClass "com/example/piastrella/piastrella/tiles/TileMatrixLimits" = some m.cls := findClass_of_methodNamed Bd.named
  have hnm := (name_of_methodNamed Bd.named Bd.method).1
  have X0 : Stand p l e ({ frames := 2, cells := 0, slots := 0, locals := 24 } : Room) s m #[(.ref a), (.ref b), (.long q1), (.long q2), (.long q3), (.long q4)] below meth c s₁ [] 0 0 := Stand.of_body Bd
  have e0 : s₁.heap = h0 := by rw [← hh, Bd.state]; rfl
  have N0 := Fr.nil n0
  show own_Ends p e below s₁ (entryFrame m #[(.ref a), (.ref b), (.long q1), (.long q2), (.long q3), (.long q4)] 10) (fun ou Uw => ∃ vu Lu, ou = .returned vu ∧ Q_own_rinit Z a q1 q2 q3 q4 h0 n0 vu Uw.heap Lu ∧ FrameEnd s ou Uw Lu ({ frames := 2, cells := 0, slots := 0, locals := 24 } : Room).cells ({ frames := 2, cells := 0, slots := 0, locals := 24 } : Room).slots)
  refine own_start (g' := (mkF m 0 #[rv a, rv b, .val (.long q1), .second, .val (.long q2), .second, .val (.long q3), .second, .val (.long q4), .second] [])) (by first | (simp [entryFrame, mkF, argsToLocals, Value.category, iv, rv]; done) | rfl) ?_
  refine own_go (T' := s₁) (g' := (mkF m 1 #[rv a, rv b, .val (.long q1), .second, .val (.long q2), .second, .val (.long q3), .second, .val (.long q4), .second] [(.ref a)])) (fun t k => XS.aloadN X0.here hx rfl (hb hby own_d_prog_9_method_1_code_0) rfl rfl k) ?_
  obtain ⟨_, _, ⟨T2, L2, k2, n2⟩, -, X2, ⟨Lc2, hQ2, l2, y2, z2⟩, st2⟩ := X0.specialBack hx (y := (⟨"java/lang/Record", "<init>", "()V"⟩ : MethodName)) rfl hown (mvT hZ (hw _ (List.mem_of_getElem? (i := 14) rfl))) (mvT hZ (hw _ (List.mem_of_getElem? (i := 15) rfl))) (mvT hZ (hw _ (List.mem_of_getElem? (i := 18) rfl))) (by decide) (backOf (W := 0) (own_rrec l Z a0 hw [] a h0 n0 Z0) hZ (hw _ (List.mem_of_getElem? (i := 18) rfl)) (hw _ (List.mem_of_getElem? (i := 17) rfl)) (by decide) (by decide)) (g := (mkF m 1 #[rv a, rv b, .val (.long q1), .second, .val (.long q2), .second, .val (.long q3), .second, .val (.long q4), .second] [(.ref a)])) rfl (by rw [hml]; rfl) (Steps.refl _) (a := a) (argsL := []) (rest := []) (lenOf own_pd0 rfl) rfl (by show 2 * 0 + _ ≤ _; exact Nat.le_of_eq rfl) (hb hby own_d_prog_9_method_1_code_1) (fun _ _ => ⟨rfl, e0, (by decide : 0 + 0 ≤ _), (by decide : 0 + 0 ≤ _)⟩)
  dsimp only [Pt.U, Pt.locs, Pt.cells, Pt.slots] at X2 l2 y2 z2 st2 hQ2
  subst l2 y2 z2
  obtain ⟨rfl, rfl, e2⟩ := hQ2
  have E2q : T2.heap = h0 := e2
  have N2 := Fr.app N0 (Fr.nil n0)
  refine own_go (T' := T2) (g' := (mkF m 4 #[rv a, rv b, .val (.long q1), .second, .val (.long q2), .second, .val (.long q3), .second, .val (.long q4), .second] [])) (fun t k => st2.trans k) ?_
  refine own_go (T' := T2) (g' := (mkF m 5 #[rv a, rv b, .val (.long q1), .second, .val (.long q2), .second, .val (.long q3), .second, .val (.long q4), .second] [(.ref a)])) (fun t k => XS.aloadN X2.here hx rfl (hb hby own_d_prog_9_method_1_code_4) rfl rfl k) ?_
  refine own_go (T' := T2) (g' := (mkF m 6 #[rv a, rv b, .val (.long q1), .second, .val (.long q2), .second, .val (.long q3), .second, .val (.long q4), .second] [(.ref b), (.ref a)])) (fun t k => XS.aloadN X2.here hx rfl (hb hby own_d_prog_9_method_1_code_5) rfl rfl k) ?_
  obtain ⟨T3, h3, X3, e3, W3, st3⟩ := putF X2 hx hZ hown (host := "") (Or.inl (hw _ (List.mem_of_getElem? (i := 22) rfl))) Via.refl E2q F_tm E_a (Or.inr ⟨(hw _ (List.mem_of_getElem? (i := 23) rfl)), rfl, hnm⟩) (hw _ (List.mem_of_getElem? (i := 1) rfl)) (ty := (.object "java/lang/String")) (by decide) rfl rfl (g := (mkF m 6 #[rv a, rv b, .val (.long q1), .second, .val (.long q2), .second, .val (.long q3), .second, .val (.long q4), .second] [(.ref b), (.ref a)])) rfl rfl (hb hby own_d_prog_9_method_1_code_6)
  have hz3 : n0 ≤ h3.size := Nat.le_trans Z0 (Keep.of_wr W3).1
  have N3 := Fr.snoc X3 N2 g_a
  have K3 := (Keep.refl h0 [a]).wr W3 (Or.inl (List.mem_of_getElem? (i := 0) rfl))
  have c4 := E_a.wr W3
  have c5 := F_minTileRow.other W3 (Or.inr (slot_ne (Or.inr (hw _ (List.mem_of_getElem? (i := 25) rfl))) (Or.inr (hw _ (List.mem_of_getElem? (i := 23) rfl))) (by decide) (t := .long) (t' := (.object "java/lang/String")) (by decide) (by decide)))
  have c6 := F_maxTileRow.other W3 (Or.inr (slot_ne (Or.inr (hw _ (List.mem_of_getElem? (i := 27) rfl))) (Or.inr (hw _ (List.mem_of_getElem? (i := 23) rfl))) (by decide) (t := .long) (t' := (.object "java/lang/String")) (by decide) (by decide)))
  have c7 := F_minTileCol.other W3 (Or.inr (slot_ne (Or.inr (hw _ (List.mem_of_getElem? (i := 29) rfl))) (Or.inr (hw _ (List.mem_of_getElem? (i := 23) rfl))) (by decide) (t := .long) (t' := (.object "java/lang/String")) (by decide) (by decide)))
  have c8 := F_maxTileCol.other W3 (Or.inr (slot_ne (Or.inr (hw _ (List.mem_of_getElem? (i := 31) rfl))) (Or.inr (hw _ (List.mem_of_getElem? (i := 23) rfl))) (by decide) (t := .long) (t' := (.object "java/lang/String")) (by decide) (by decide)))
  have c9 := F_tm.same W3
  refine own_go (T' := T3) (g' := (mkF m 9 #[rv a, rv b, .val (.long q1), .second, .val (.long q2), .second, .val (.long q3), .second, .val (.long q4), .second] [])) (st3) ?_
  refine own_go (T' := T3) (g' := (mkF m 10 #[rv a, rv b, .val (.long q1), .second, .val (.long q2), .second, .val (.long q3), .second, .val (.long q4), .second] [(.ref a)])) (fun t k => XS.aloadN X3.here hx rfl (hb hby own_d_prog_9_method_1_code_9) rfl rfl k) ?_
  refine own_go (T' := T3) (g' := (mkF m 11 #[rv a, rv b, .val (.long q1), .second, .val (.long q2), .second, .val (.long q3), .second, .val (.long q4), .second] [(.long q1), (.ref a)])) (fun t k => XS.lloadN X3.here hx rfl (hb hby own_d_prog_9_method_1_code_10) rfl k) ?_
  obtain ⟨T10, h10, X10, e10, W10, st10⟩ := putF X3 hx hZ hown (host := "") (Or.inl (hw _ (List.mem_of_getElem? (i := 24) rfl))) Via.refl e3 c5 c4 (Or.inr ⟨(hw _ (List.mem_of_getElem? (i := 25) rfl)), rfl, hnm⟩) (hw _ (List.mem_of_getElem? (i := 1) rfl)) (ty := .long) (by decide) rfl rfl (g := (mkF m 11 #[rv a, rv b, .val (.long q1), .second, .val (.long q2), .second, .val (.long q3), .second, .val (.long q4), .second] [(.long q1), (.ref a)])) rfl rfl (hb hby own_d_prog_9_method_1_code_11)
  have hz10 : n0 ≤ h10.size := Nat.le_trans hz3 (Keep.of_wr W10).1
  have N10 := Fr.snoc X10 N3 g_a
  have K10 := K3.wr W10 (Or.inl (List.mem_of_getElem? (i := 0) rfl))
  have c11 := c4.wr W10
  have c12 := c5.same W10
  have c13 := c6.other W10 (Or.inr (slot_ne (Or.inr (hw _ (List.mem_of_getElem? (i := 27) rfl))) (Or.inr (hw _ (List.mem_of_getElem? (i := 25) rfl))) (by decide) (t := .long) (t' := .long) (by decide) (by decide)))
  have c14 := c7.other W10 (Or.inr (slot_ne (Or.inr (hw _ (List.mem_of_getElem? (i := 29) rfl))) (Or.inr (hw _ (List.mem_of_getElem? (i := 25) rfl))) (by decide) (t := .long) (t' := .long) (by decide) (by decide)))
  have c15 := c8.other W10 (Or.inr (slot_ne (Or.inr (hw _ (List.mem_of_getElem? (i := 31) rfl))) (Or.inr (hw _ (List.mem_of_getElem? (i := 25) rfl))) (by decide) (t := .long) (t' := .long) (by decide) (by decide)))
  have c16 := c9.other W10 (Or.inr (slot_ne (Or.inr (hw _ (List.mem_of_getElem? (i := 23) rfl))) (Or.inr (hw _ (List.mem_of_getElem? (i := 25) rfl))) (by decide) (t := (.object "java/lang/String")) (t' := .long) (by decide) (by decide)))
  refine own_go (T' := T10) (g' := (mkF m 14 #[rv a, rv b, .val (.long q1), .second, .val (.long q2), .second, .val (.long q3), .second, .val (.long q4), .second] [])) (st10) ?_
  refine own_go (T' := T10) (g' := (mkF m 15 #[rv a, rv b, .val (.long q1), .second, .val (.long q2), .second, .val (.long q3), .second, .val (.long q4), .second] [(.ref a)])) (fun t k => XS.aloadN X10.here hx rfl (hb hby own_d_prog_9_method_1_code_14) rfl rfl k) ?_
  refine own_go (T' := T10) (g' := (mkF m 17 #[rv a, rv b, .val (.long q1), .second, .val (.long q2), .second, .val (.long q3), .second, .val (.long q4), .second] [(.long q2), (.ref a)])) (fun t k => XS.lload X10.here hx rfl (hb hby own_d_prog_9_method_1_code_15) rfl k) ?_
  obtain ⟨T17, h17, X17, e17, W17, st17⟩ := putF X10 hx hZ hown (host := "") (Or.inl (hw _ (List.mem_of_getElem? (i := 26) rfl))) Via.refl e10 c13 c11 (Or.inr ⟨(hw _ (List.mem_of_getElem? (i := 27) rfl)), rfl, hnm⟩) (hw _ (List.mem_of_getElem? (i := 1) rfl)) (ty := .long) (by decide) rfl rfl (g := (mkF m 17 #[rv a, rv b, .val (.long q1), .second, .val (.long q2), .second, .val (.long q3), .second, .val (.long q4), .second] [(.long q2), (.ref a)])) rfl rfl (hb hby own_d_prog_9_method_1_code_17)
  have hz17 : n0 ≤ h17.size := Nat.le_trans hz10 (Keep.of_wr W17).1
  have N17 := Fr.snoc X17 N10 g_a
  have K17 := K10.wr W17 (Or.inl (List.mem_of_getElem? (i := 0) rfl))
  have c18 := c11.wr W17
  have c19 := c12.other W17 (Or.inr (slot_ne (Or.inr (hw _ (List.mem_of_getElem? (i := 25) rfl))) (Or.inr (hw _ (List.mem_of_getElem? (i := 27) rfl))) (by decide) (t := .long) (t' := .long) (by decide) (by decide)))
  have c20 := c13.same W17
  have c21 := c14.other W17 (Or.inr (slot_ne (Or.inr (hw _ (List.mem_of_getElem? (i := 29) rfl))) (Or.inr (hw _ (List.mem_of_getElem? (i := 27) rfl))) (by decide) (t := .long) (t' := .long) (by decide) (by decide)))
  have c22 := c15.other W17 (Or.inr (slot_ne (Or.inr (hw _ (List.mem_of_getElem? (i := 31) rfl))) (Or.inr (hw _ (List.mem_of_getElem? (i := 27) rfl))) (by decide) (t := .long) (t' := .long) (by decide) (by decide)))
  have c23 := c16.other W17 (Or.inr (slot_ne (Or.inr (hw _ (List.mem_of_getElem? (i := 23) rfl))) (Or.inr (hw _ (List.mem_of_getElem? (i := 27) rfl))) (by decide) (t := (.object "java/lang/String")) (t' := .long) (by decide) (by decide)))
  refine own_go (T' := T17) (g' := (mkF m 20 #[rv a, rv b, .val (.long q1), .second, .val (.long q2), .second, .val (.long q3), .second, .val (.long q4), .second] [])) (st17) ?_
  refine own_go (T' := T17) (g' := (mkF m 21 #[rv a, rv b, .val (.long q1), .second, .val (.long q2), .second, .val (.long q3), .second, .val (.long q4), .second] [(.ref a)])) (fun t k => XS.aloadN X17.here hx rfl (hb hby own_d_prog_9_method_1_code_20) rfl rfl k) ?_
  refine own_go (T' := T17) (g' := (mkF m 23 #[rv a, rv b, .val (.long q1), .second, .val (.long q2), .second, .val (.long q3), .second, .val (.long q4), .second] [(.long q3), (.ref a)])) (fun t k => XS.lload X17.here hx rfl (hb hby own_d_prog_9_method_1_code_21) rfl k) ?_
  obtain ⟨T24, h24, X24, e24, W24, st24⟩ := putF X17 hx hZ hown (host := "") (Or.inl (hw _ (List.mem_of_getElem? (i := 28) rfl))) Via.refl e17 c21 c18 (Or.inr ⟨(hw _ (List.mem_of_getElem? (i := 29) rfl)), rfl, hnm⟩) (hw _ (List.mem_of_getElem? (i := 1) rfl)) (ty := .long) (by decide) rfl rfl (g := (mkF m 23 #[rv a, rv b, .val (.long q1), .second, .val (.long q2), .second, .val (.long q3), .second, .val (.long q4), .second] [(.long q3), (.ref a)])) rfl rfl (hb hby own_d_prog_9_method_1_code_23)
  have hz24 : n0 ≤ h24.size := Nat.le_trans hz17 (Keep.of_wr W24).1
  have N24 := Fr.snoc X24 N17 g_a
  have K24 := K17.wr W24 (Or.inl (List.mem_of_getElem? (i := 0) rfl))
  have c25 := c18.wr W24
  have c26 := c19.other W24 (Or.inr (slot_ne (Or.inr (hw _ (List.mem_of_getElem? (i := 25) rfl))) (Or.inr (hw _ (List.mem_of_getElem? (i := 29) rfl))) (by decide) (t := .long) (t' := .long) (by decide) (by decide)))
  have c27 := c20.other W24 (Or.inr (slot_ne (Or.inr (hw _ (List.mem_of_getElem? (i := 27) rfl))) (Or.inr (hw _ (List.mem_of_getElem? (i := 29) rfl))) (by decide) (t := .long) (t' := .long) (by decide) (by decide)))
  have c28 := c21.same W24
  have c29 := c22.other W24 (Or.inr (slot_ne (Or.inr (hw _ (List.mem_of_getElem? (i := 31) rfl))) (Or.inr (hw _ (List.mem_of_getElem? (i := 29) rfl))) (by decide) (t := .long) (t' := .long) (by decide) (by decide)))
  have c30 := c23.other W24 (Or.inr (slot_ne (Or.inr (hw _ (List.mem_of_getElem? (i := 23) rfl))) (Or.inr (hw _ (List.mem_of_getElem? (i := 29) rfl))) (by decide) (t := (.object "java/lang/String")) (t' := .long) (by decide) (by decide)))
  refine own_go (T' := T24) (g' := (mkF m 26 #[rv a, rv b, .val (.long q1), .second, .val (.long q2), .second, .val (.long q3), .second, .val (.long q4), .second] [])) (st24) ?_
  refine own_go (T' := T24) (g' := (mkF m 27 #[rv a, rv b, .val (.long q1), .second, .val (.long q2), .second, .val (.long q3), .second, .val (.long q4), .second] [(.ref a)])) (fun t k => XS.aloadN X24.here hx rfl (hb hby own_d_prog_9_method_1_code_26) rfl rfl k) ?_
  refine own_go (T' := T24) (g' := (mkF m 29 #[rv a, rv b, .val (.long q1), .second, .val (.long q2), .second, .val (.long q3), .second, .val (.long q4), .second] [(.long q4), (.ref a)])) (fun t k => XS.lload X24.here hx rfl (hb hby own_d_prog_9_method_1_code_27) rfl k) ?_
  obtain ⟨T31, h31, X31, e31, W31, st31⟩ := putF X24 hx hZ hown (host := "") (Or.inl (hw _ (List.mem_of_getElem? (i := 30) rfl))) Via.refl e24 c29 c25 (Or.inr ⟨(hw _ (List.mem_of_getElem? (i := 31) rfl)), rfl, hnm⟩) (hw _ (List.mem_of_getElem? (i := 1) rfl)) (ty := .long) (by decide) rfl rfl (g := (mkF m 29 #[rv a, rv b, .val (.long q1), .second, .val (.long q2), .second, .val (.long q3), .second, .val (.long q4), .second] [(.long q4), (.ref a)])) rfl rfl (hb hby own_d_prog_9_method_1_code_29)
  have hz31 : n0 ≤ h31.size := Nat.le_trans hz24 (Keep.of_wr W31).1
  have N31 := Fr.snoc X31 N24 g_a
  have K31 := K24.wr W31 (Or.inl (List.mem_of_getElem? (i := 0) rfl))
  have c32 := c25.wr W31
  have c33 := c26.other W31 (Or.inr (slot_ne (Or.inr (hw _ (List.mem_of_getElem? (i := 25) rfl))) (Or.inr (hw _ (List.mem_of_getElem? (i := 31) rfl))) (by decide) (t := .long) (t' := .long) (by decide) (by decide)))
  have c34 := c27.other W31 (Or.inr (slot_ne (Or.inr (hw _ (List.mem_of_getElem? (i := 27) rfl))) (Or.inr (hw _ (List.mem_of_getElem? (i := 31) rfl))) (by decide) (t := .long) (t' := .long) (by decide) (by decide)))
  have c35 := c28.other W31 (Or.inr (slot_ne (Or.inr (hw _ (List.mem_of_getElem? (i := 29) rfl))) (Or.inr (hw _ (List.mem_of_getElem? (i := 31) rfl))) (by decide) (t := .long) (t' := .long) (by decide) (by decide)))
  have c36 := c29.same W31
  have c37 := c30.other W31 (Or.inr (slot_ne (Or.inr (hw _ (List.mem_of_getElem? (i := 23) rfl))) (Or.inr (hw _ (List.mem_of_getElem? (i := 31) rfl))) (by decide) (t := (.object "java/lang/String")) (t' := .long) (by decide) (by decide)))
  refine own_go (T' := T31) (g' := (mkF m 32 #[rv a, rv b, .val (.long q1), .second, .val (.long q2), .second, .val (.long q3), .second, .val (.long q4), .second] [])) (st31) ?_
  exact own_ret0 X31 hlk hx Bd.returns (hb hby own_d_prog_9_method_1_code_32) (by rw [e31]; exact ⟨rfl, N31, K31, c32, c33, c34, c35, c36⟩) (by decide) (by decide)

theorem own_d_prog_9_method_2_code_0 : decode prog_9_method_2_code 0 = .ok (.lload_n 1, 1) := by decide +kernel
theorem own_d_prog_9_method_2_code_1 : decode prog_9_method_2_code 1 = .ok (.aload_n 0, 1) := by decide +kernel
theorem own_d_prog_9_method_2_code_2 : decode prog_9_method_2_code 2 = .ok (.getfield 13, 3) := by decide +kernel
theorem own_d_prog_9_method_2_code_5 : decode prog_9_method_2_code 5 = .ok (.lcmp, 1) := by decide +kernel
theorem own_d_prog_9_method_2_code_6 : decode prog_9_method_2_code 6 = .ok (.ifCond .lt 34, 3) := by decide +kernel
theorem own_d_prog_9_method_2_code_9 : decode prog_9_method_2_code 9 = .ok (.lload_n 1, 1) := by decide +kernel
theorem own_d_prog_9_method_2_code_10 : decode prog_9_method_2_code 10 = .ok (.aload_n 0, 1) := by decide +kernel
theorem own_d_prog_9_method_2_code_11 : decode prog_9_method_2_code 11 = .ok (.getfield 17, 3) := by decide +kernel
theorem own_d_prog_9_method_2_code_14 : decode prog_9_method_2_code 14 = .ok (.lcmp, 1) := by decide +kernel
theorem own_d_prog_9_method_2_code_15 : decode prog_9_method_2_code 15 = .ok (.ifCond .gt 25, 3) := by decide +kernel
theorem own_d_prog_9_method_2_code_18 : decode prog_9_method_2_code 18 = .ok (.lload_n 3, 1) := by decide +kernel
theorem own_d_prog_9_method_2_code_19 : decode prog_9_method_2_code 19 = .ok (.aload_n 0, 1) := by decide +kernel
theorem own_d_prog_9_method_2_code_20 : decode prog_9_method_2_code 20 = .ok (.getfield 20, 3) := by decide +kernel
theorem own_d_prog_9_method_2_code_23 : decode prog_9_method_2_code 23 = .ok (.lcmp, 1) := by decide +kernel
theorem own_d_prog_9_method_2_code_24 : decode prog_9_method_2_code 24 = .ok (.ifCond .lt 16, 3) := by decide +kernel
theorem own_d_prog_9_method_2_code_27 : decode prog_9_method_2_code 27 = .ok (.lload_n 3, 1) := by decide +kernel
theorem own_d_prog_9_method_2_code_28 : decode prog_9_method_2_code 28 = .ok (.aload_n 0, 1) := by decide +kernel
theorem own_d_prog_9_method_2_code_29 : decode prog_9_method_2_code 29 = .ok (.getfield 23, 3) := by decide +kernel
theorem own_d_prog_9_method_2_code_32 : decode prog_9_method_2_code 32 = .ok (.lcmp, 1) := by decide +kernel
theorem own_d_prog_9_method_2_code_33 : decode prog_9_method_2_code 33 = .ok (.ifCond .gt 7, 3) := by decide +kernel
theorem own_d_prog_9_method_2_code_36 : decode prog_9_method_2_code 36 = .ok (.iconst 1, 1) := by decide +kernel
theorem own_d_prog_9_method_2_code_37 : decode prog_9_method_2_code 37 = .ok (.goto 4, 3) := by decide +kernel
theorem own_d_prog_9_method_2_code_40 : decode prog_9_method_2_code 40 = .ok (.iconst 0, 1) := by decide +kernel
theorem own_d_prog_9_method_2_code_41 : decode prog_9_method_2_code 41 = .ok (.ireturn, 1) := by decide +kernel
def Q_own_rcont (r cc q1 q2 q3 q4 : Int64) (h0 : Heap) (n0 : Nat) (v : Option Value) (h : Heap) (L : List Loc) : Prop := v = some (.int (own_cont r cc q1 q2 q3 q4)) ∧ L = [] ∧ h = h0
set_option maxRecDepth 65536 in
set_option maxHeartbeats 40000000 in
theorem own_rcont (l : Launch) (Z : State) (a0 : Array Value) (hw : ∀ d ∈ tables_1, d.before a0 Z = true) (ws : List Jvm.Cond) (a : Addr) (r cc q1 q2 q3 q4 : Int64) (h0 : Heap) (n0 : Nat) (Z0 : n0 ≤ h0.size) (F_minTileRow : Fld Z h0 a "com/example/piastrella/piastrella/tiles/TileMatrixLimits" "minTileRow" "J" (.long q1)) (F_maxTileRow : Fld Z h0 a "com/example/piastrella/piastrella/tiles/TileMatrixLimits" "maxTileRow" "J" (.long q2)) (F_minTileCol : Fld Z h0 a "com/example/piastrella/piastrella/tiles/TileMatrixLimits" "minTileCol" "J" (.long q3)) (F_maxTileCol : Fld Z h0 a "com/example/piastrella/piastrella/tiles/TileMatrixLimits" "maxTileCol" "J" (.long q4)) :
    MetFree l (⟨"com/example/piastrella/piastrella/tiles/TileMatrixLimits", "contains", "(JJ)Z"⟩ : MethodName) (head1 (Jvm.Cond.code (⟨"com/example/piastrella/piastrella/tiles/TileMatrixLimits", "contains", "(JJ)Z"⟩ : MethodName) prog_9_method_2_code 5 (some .boolean) :: ws) ({ frames := 0, cells := 0, slots := 0, locals := 0 } : Room)) (fun au Uu => au = #[(.ref a), (.long r), (.long cc)] ∧ Z.Warmed39 Uu.vm ∧ Uu.heap = h0) (fun _ _ _ _ _ => True) (fun _ Uu ou Uw => ∃ vu Lu, ou = .returned vu ∧ Q_own_rcont r cc q1 q2 q3 q4 h0 n0 vu Uw.heap Lu ∧ FrameEnd Uu ou Uw Lu ({ frames := 0, cells := 0, slots := 0, locals := 0 } : Room).cells ({ frames := 0, cells := 0, slots := 0, locals := 0 } : Room).slots) := by
  refine MetFree.of_bodySF (plainFor_of_name (by first | (simp [plainName, overriddenIn]; done) | decide +kernel)) hisR ?_
  intro p e s m args below meth c s₁ Bd hml0 hP hK
  obtain ⟨rfl, hZ, hh⟩ := hP
  have hx := Bd.exec
  have hby := Bd.bytes
  have hlk := Bd.notSynchronized
  have hml : c.maxLocals = 5 := hml0
  have hown : s.vm.findClass "com/example/piastrella/piastrella/tiles/TileMatrixLimits" = some m.cls := findClass_of_methodNamed Bd.named
  have hnm := (name_of_methodNamed Bd.named Bd.method).1
  have X0 : Stand p l e ({ frames := 0, cells := 0, slots := 0, locals := 0 } : Room) s m #[(.ref a), (.long r), (.long cc)] below meth c s₁ [] 0 0 := Stand.of_body Bd
  have e0 : s₁.heap = h0 := by rw [← hh, Bd.state]; rfl
  have N0 := Fr.nil n0
  show own_Ends p e below s₁ (entryFrame m #[(.ref a), (.long r), (.long cc)] 5) (fun ou Uw => ∃ vu Lu, ou = .returned vu ∧ Q_own_rcont r cc q1 q2 q3 q4 h0 n0 vu Uw.heap Lu ∧ FrameEnd s ou Uw Lu ({ frames := 0, cells := 0, slots := 0, locals := 0 } : Room).cells ({ frames := 0, cells := 0, slots := 0, locals := 0 } : Room).slots)
  refine own_start (g' := (mkF m 0 #[rv a, .val (.long r), .second, .val (.long cc), .second] [])) (by first | (simp [entryFrame, mkF, argsToLocals, Value.category, iv, rv]; done) | rfl) ?_
  refine own_go (T' := s₁) (g' := (mkF m 1 #[rv a, .val (.long r), .second, .val (.long cc), .second] [(.long r)])) (fun t k => XS.lloadN X0.here hx rfl (hb hby own_d_prog_9_method_2_code_0) rfl k) ?_
  refine own_go (T' := s₁) (g' := (mkF m 2 #[rv a, .val (.long r), .second, .val (.long cc), .second] [(.ref a), (.long r)])) (fun t k => XS.aloadN X0.here hx rfl (hb hby own_d_prog_9_method_2_code_1) rfl rfl k) ?_
  obtain ⟨T38, X38, e38, st38⟩ := getF X0 hx hZ hown (host := "") (Or.inl (hw _ (List.mem_of_getElem? (i := 24) rfl))) Via.refl e0 F_minTileRow (g := (mkF m 2 #[rv a, .val (.long r), .second, .val (.long cc), .second] [(.ref a), (.long r)])) rfl rfl (hb hby own_d_prog_9_method_2_code_2)
  refine own_go (T' := T38) (g' := (mkF m 5 #[rv a, .val (.long r), .second, .val (.long cc), .second] [(.long q1), (.long r)])) (st38) ?_
  refine own_go (T' := T38) (g' := (mkF m 6 #[rv a, .val (.long r), .second, .val (.long cc), .second] [(.int (lcmpW r q1))])) (fun t k => XS.lcmp X38.here hx rfl (hb hby own_d_prog_9_method_2_code_5) rfl k) ?_
  by_cases hc39 : (lcmpW r q1) < (0 : Int32)
  · refine own_go (T' := T38) (g' := (mkF m 40 #[rv a, .val (.long r), .second, .val (.long cc), .second] [])) (fun t k => XS.ifYes X38.here hx rfl (pc0 := 6) (pc' := 40) rfl (hb hby own_d_prog_9_method_2_code_6) rfl ((if0 _ _).trans (tlt hc39).1) (by decide) (by decide) k) ?_
    refine own_go (T' := T38) (g' := (mkF m 41 #[rv a, .val (.long r), .second, .val (.long cc), .second] [(.int (0 : Int32))])) (fun t k => XS.iconst X38.here hx rfl (hb hby own_d_prog_9_method_2_code_40) k) ?_
    exact own_ret X38 hlk hx Bd.returns rfl (Or.inl ⟨rfl, Or.inr (Or.inl rfl), _, rfl⟩) (hb hby own_d_prog_9_method_2_code_41) ⟨by simp only [lw_lt, lw_gt] at *; simp [own_cont, *], rfl, e38⟩ (by decide) (by decide)
  · refine own_go (T' := T38) (g' := (mkF m 9 #[rv a, .val (.long r), .second, .val (.long cc), .second] [])) (fun t k => XS.ifNo X38.here hx rfl (hb hby own_d_prog_9_method_2_code_6) rfl ((if0 _ _).trans (flt hc39).1) k) ?_
    refine own_go (T' := T38) (g' := (mkF m 10 #[rv a, .val (.long r), .second, .val (.long cc), .second] [(.long r)])) (fun t k => XS.lloadN X38.here hx rfl (hb hby own_d_prog_9_method_2_code_9) rfl k) ?_
    refine own_go (T' := T38) (g' := (mkF m 11 #[rv a, .val (.long r), .second, .val (.long cc), .second] [(.ref a), (.long r)])) (fun t k => XS.aloadN X38.here hx rfl (hb hby own_d_prog_9_method_2_code_10) rfl rfl k) ?_
    obtain ⟨T40, X40, e40, st40⟩ := getF X38 hx hZ hown (host := "") (Or.inl (hw _ (List.mem_of_getElem? (i := 26) rfl))) Via.refl e38 F_maxTileRow (g := (mkF m 11 #[rv a, .val (.long r), .second, .val (.long cc), .second] [(.ref a), (.long r)])) rfl rfl (hb hby own_d_prog_9_method_2_code_11)
    refine own_go (T' := T40) (g' := (mkF m 14 #[rv a, .val (.long r), .second, .val (.long cc), .second] [(.long q2), (.long r)])) (st40) ?_
    refine own_go (T' := T40) (g' := (mkF m 15 #[rv a, .val (.long r), .second, .val (.long cc), .second] [(.int (lcmpW r q2))])) (fun t k => XS.lcmp X40.here hx rfl (hb hby own_d_prog_9_method_2_code_14) rfl k) ?_
    by_cases hc41 : (0 : Int32) < (lcmpW r q2)
    · refine own_go (T' := T40) (g' := (mkF m 40 #[rv a, .val (.long r), .second, .val (.long cc), .second] [])) (fun t k => XS.ifYes X40.here hx rfl (pc0 := 15) (pc' := 40) rfl (hb hby own_d_prog_9_method_2_code_15) rfl ((if0 _ _).trans (tlt hc41).2.2.1) (by decide) (by decide) k) ?_
      refine own_go (T' := T40) (g' := (mkF m 41 #[rv a, .val (.long r), .second, .val (.long cc), .second] [(.int (0 : Int32))])) (fun t k => XS.iconst X40.here hx rfl (hb hby own_d_prog_9_method_2_code_40) k) ?_
      exact own_ret X40 hlk hx Bd.returns rfl (Or.inl ⟨rfl, Or.inr (Or.inl rfl), _, rfl⟩) (hb hby own_d_prog_9_method_2_code_41) ⟨by simp only [lw_lt, lw_gt] at *; simp [own_cont, *], rfl, e40⟩ (by decide) (by decide)
    · refine own_go (T' := T40) (g' := (mkF m 18 #[rv a, .val (.long r), .second, .val (.long cc), .second] [])) (fun t k => XS.ifNo X40.here hx rfl (hb hby own_d_prog_9_method_2_code_15) rfl ((if0 _ _).trans (flt hc41).2.2.1) k) ?_
      refine own_go (T' := T40) (g' := (mkF m 19 #[rv a, .val (.long r), .second, .val (.long cc), .second] [(.long cc)])) (fun t k => XS.lloadN X40.here hx rfl (hb hby own_d_prog_9_method_2_code_18) rfl k) ?_
      refine own_go (T' := T40) (g' := (mkF m 20 #[rv a, .val (.long r), .second, .val (.long cc), .second] [(.ref a), (.long cc)])) (fun t k => XS.aloadN X40.here hx rfl (hb hby own_d_prog_9_method_2_code_19) rfl rfl k) ?_
      obtain ⟨T42, X42, e42, st42⟩ := getF X40 hx hZ hown (host := "") (Or.inl (hw _ (List.mem_of_getElem? (i := 28) rfl))) Via.refl e40 F_minTileCol (g := (mkF m 20 #[rv a, .val (.long r), .second, .val (.long cc), .second] [(.ref a), (.long cc)])) rfl rfl (hb hby own_d_prog_9_method_2_code_20)
      refine own_go (T' := T42) (g' := (mkF m 23 #[rv a, .val (.long r), .second, .val (.long cc), .second] [(.long q3), (.long cc)])) (st42) ?_
      refine own_go (T' := T42) (g' := (mkF m 24 #[rv a, .val (.long r), .second, .val (.long cc), .second] [(.int (lcmpW cc q3))])) (fun t k => XS.lcmp X42.here hx rfl (hb hby own_d_prog_9_method_2_code_23) rfl k) ?_
      by_cases hc43 : (lcmpW cc q3) < (0 : Int32)
      · refine own_go (T' := T42) (g' := (mkF m 40 #[rv a, .val (.long r), .second, .val (.long cc), .second] [])) (fun t k => XS.ifYes X42.here hx rfl (pc0 := 24) (pc' := 40) rfl (hb hby own_d_prog_9_method_2_code_24) rfl ((if0 _ _).trans (tlt hc43).1) (by decide) (by decide) k) ?_
        refine own_go (T' := T42) (g' := (mkF m 41 #[rv a, .val (.long r), .second, .val (.long cc), .second] [(.int (0 : Int32))])) (fun t k => XS.iconst X42.here hx rfl (hb hby own_d_prog_9_method_2_code_40) k) ?_
        exact own_ret X42 hlk hx Bd.returns rfl (Or.inl ⟨rfl, Or.inr (Or.inl rfl), _, rfl⟩) (hb hby own_d_prog_9_method_2_code_41) ⟨by simp only [lw_lt, lw_gt] at *; simp [own_cont, *], rfl, e42⟩ (by decide) (by decide)
      · refine own_go (T' := T42) (g' := (mkF m 27 #[rv a, .val (.long r), .second, .val (.long cc), .second] [])) (fun t k => XS.ifNo X42.here hx rfl (hb hby own_d_prog_9_method_2_code_24) rfl ((if0 _ _).trans (flt hc43).1) k) ?_
        refine own_go (T' := T42) (g' := (mkF m 28 #[rv a, .val (.long r), .second, .val (.long cc), .second] [(.long cc)])) (fun t k => XS.lloadN X42.here hx rfl (hb hby own_d_prog_9_method_2_code_27) rfl k) ?_
        refine own_go (T' := T42) (g' := (mkF m 29 #[rv a, .val (.long r), .second, .val (.long cc), .second] [(.ref a), (.long cc)])) (fun t k => XS.aloadN X42.here hx rfl (hb hby own_d_prog_9_method_2_code_28) rfl rfl k) ?_
        obtain ⟨T44, X44, e44, st44⟩ := getF X42 hx hZ hown (host := "") (Or.inl (hw _ (List.mem_of_getElem? (i := 30) rfl))) Via.refl e42 F_maxTileCol (g := (mkF m 29 #[rv a, .val (.long r), .second, .val (.long cc), .second] [(.ref a), (.long cc)])) rfl rfl (hb hby own_d_prog_9_method_2_code_29)
        refine own_go (T' := T44) (g' := (mkF m 32 #[rv a, .val (.long r), .second, .val (.long cc), .second] [(.long q4), (.long cc)])) (st44) ?_
        refine own_go (T' := T44) (g' := (mkF m 33 #[rv a, .val (.long r), .second, .val (.long cc), .second] [(.int (lcmpW cc q4))])) (fun t k => XS.lcmp X44.here hx rfl (hb hby own_d_prog_9_method_2_code_32) rfl k) ?_
        by_cases hc45 : (0 : Int32) < (lcmpW cc q4)
        · refine own_go (T' := T44) (g' := (mkF m 40 #[rv a, .val (.long r), .second, .val (.long cc), .second] [])) (fun t k => XS.ifYes X44.here hx rfl (pc0 := 33) (pc' := 40) rfl (hb hby own_d_prog_9_method_2_code_33) rfl ((if0 _ _).trans (tlt hc45).2.2.1) (by decide) (by decide) k) ?_
          refine own_go (T' := T44) (g' := (mkF m 41 #[rv a, .val (.long r), .second, .val (.long cc), .second] [(.int (0 : Int32))])) (fun t k => XS.iconst X44.here hx rfl (hb hby own_d_prog_9_method_2_code_40) k) ?_
          exact own_ret X44 hlk hx Bd.returns rfl (Or.inl ⟨rfl, Or.inr (Or.inl rfl), _, rfl⟩) (hb hby own_d_prog_9_method_2_code_41) ⟨by simp only [lw_lt, lw_gt] at *; simp [own_cont, *], rfl, e44⟩ (by decide) (by decide)
        · refine own_go (T' := T44) (g' := (mkF m 36 #[rv a, .val (.long r), .second, .val (.long cc), .second] [])) (fun t k => XS.ifNo X44.here hx rfl (hb hby own_d_prog_9_method_2_code_33) rfl ((if0 _ _).trans (flt hc45).2.2.1) k) ?_
          refine own_go (T' := T44) (g' := (mkF m 37 #[rv a, .val (.long r), .second, .val (.long cc), .second] [(.int (1 : Int32))])) (fun t k => XS.iconst X44.here hx rfl (hb hby own_d_prog_9_method_2_code_36) k) ?_
          refine own_go (T' := T44) (g' := (mkF m 41 #[rv a, .val (.long r), .second, .val (.long cc), .second] [(.int (1 : Int32))])) (fun t k => XS.goto X44.here hx rfl (pc0 := 37) (pc' := 41) rfl (hb hby own_d_prog_9_method_2_code_37) (by decide) (by decide) k) ?_
          exact own_ret X44 hlk hx Bd.returns rfl (Or.inl ⟨rfl, Or.inr (Or.inl rfl), _, rfl⟩) (hb hby own_d_prog_9_method_2_code_41) ⟨by simp only [lw_lt, lw_gt] at *; simp [own_cont, *], rfl, e44⟩ (by decide) (by decide)

theorem own_d_jdk_29_method_70_code_0 : decode jdk_29_method_70_code 0 = .ok (.lload_n 0, 1) := by decide +kernel
theorem own_d_jdk_29_method_70_code_1 : decode jdk_29_method_70_code 1 = .ok (.lload_n 2, 1) := by decide +kernel
theorem own_d_jdk_29_method_70_code_2 : decode jdk_29_method_70_code 2 = .ok (.lcmp, 1) := by decide +kernel
theorem own_d_jdk_29_method_70_code_3 : decode jdk_29_method_70_code 3 = .ok (.ifCond .gt 7, 3) := by decide +kernel
theorem own_d_jdk_29_method_70_code_6 : decode jdk_29_method_70_code 6 = .ok (.lload_n 0, 1) := by decide +kernel
theorem own_d_jdk_29_method_70_code_7 : decode jdk_29_method_70_code 7 = .ok (.goto 4, 3) := by decide +kernel
theorem own_d_jdk_29_method_70_code_10 : decode jdk_29_method_70_code 10 = .ok (.lload_n 2, 1) := by decide +kernel
theorem own_d_jdk_29_method_70_code_11 : decode jdk_29_method_70_code 11 = .ok (.lreturn, 1) := by decide +kernel
def Q_own_rmin (a b : Int64) (h0 : Heap) (n0 : Nat) (v : Option Value) (h : Heap) (L : List Loc) : Prop := v = some (.long (own_min a b)) ∧ L = [] ∧ h = h0
set_option maxRecDepth 65536 in
set_option maxHeartbeats 40000000 in
theorem own_rmin (l : Launch) (Z : State) (a0 : Array Value) (hw : ∀ d ∈ tables_1, d.before a0 Z = true) (ws : List Jvm.Cond) (a b : Int64) (h0 : Heap) (n0 : Nat) (Z0 : n0 ≤ h0.size)  :
    MetFree l (⟨"java/lang/Math", "min", "(JJ)J"⟩ : MethodName) (head1 (Jvm.Cond.code (⟨"java/lang/Math", "min", "(JJ)J"⟩ : MethodName) jdk_29_method_70_code 4 (some .long) :: ws) ({ frames := 0, cells := 0, slots := 0, locals := 0 } : Room)) (fun au Uu => au = #[(.long a), (.long b)] ∧ Z.Warmed39 Uu.vm ∧ Uu.heap = h0) (fun _ _ _ _ _ => True) (fun _ Uu ou Uw => ∃ vu Lu, ou = .returned vu ∧ Q_own_rmin a b h0 n0 vu Uw.heap Lu ∧ FrameEnd Uu ou Uw Lu ({ frames := 0, cells := 0, slots := 0, locals := 0 } : Room).cells ({ frames := 0, cells := 0, slots := 0, locals := 0 } : Room).slots) := by
  refine MetFree.of_bodySF (Jvm.Free.JP.mathPlain rfl (by decide +kernel)) hisR ?_
  intro p e s m args below meth c s₁ Bd hml0 hP hK
  obtain ⟨rfl, hZ, hh⟩ := hP
  have hx := Bd.exec
  have hby := Bd.bytes
  have hlk := Bd.notSynchronized
  have hml : c.maxLocals = 4 := hml0
  have hown : s.vm.findClass "java/lang/Math" = some m.cls := findClass_of_methodNamed Bd.named
  have hnm := (name_of_methodNamed Bd.named Bd.method).1
  have X0 : Stand p l e ({ frames := 0, cells := 0, slots := 0, locals := 0 } : Room) s m #[(.long a), (.long b)] below meth c s₁ [] 0 0 := Stand.of_body Bd
  have e0 : s₁.heap = h0 := by rw [← hh, Bd.state]; rfl
  have N0 := Fr.nil n0
  show own_Ends p e below s₁ (entryFrame m #[(.long a), (.long b)] 4) (fun ou Uw => ∃ vu Lu, ou = .returned vu ∧ Q_own_rmin a b h0 n0 vu Uw.heap Lu ∧ FrameEnd s ou Uw Lu ({ frames := 0, cells := 0, slots := 0, locals := 0 } : Room).cells ({ frames := 0, cells := 0, slots := 0, locals := 0 } : Room).slots)
  refine own_start (g' := (mkF m 0 #[.val (.long a), .second, .val (.long b), .second] [])) (by first | (simp [entryFrame, mkF, argsToLocals, Value.category, iv, rv]; done) | rfl) ?_
  refine own_go (T' := s₁) (g' := (mkF m 1 #[.val (.long a), .second, .val (.long b), .second] [(.long a)])) (fun t k => XS.lloadN X0.here hx rfl (hb hby own_d_jdk_29_method_70_code_0) rfl k) ?_
  refine own_go (T' := s₁) (g' := (mkF m 2 #[.val (.long a), .second, .val (.long b), .second] [(.long b), (.long a)])) (fun t k => XS.lloadN X0.here hx rfl (hb hby own_d_jdk_29_method_70_code_1) rfl k) ?_
  refine own_go (T' := s₁) (g' := (mkF m 3 #[.val (.long a), .second, .val (.long b), .second] [(.int (lcmpW a b))])) (fun t k => XS.lcmp X0.here hx rfl (hb hby own_d_jdk_29_method_70_code_2) rfl k) ?_
  by_cases hc46 : (0 : Int32) < (lcmpW a b)
  · refine own_go (T' := s₁) (g' := (mkF m 10 #[.val (.long a), .second, .val (.long b), .second] [])) (fun t k => XS.ifYes X0.here hx rfl (pc0 := 3) (pc' := 10) rfl (hb hby own_d_jdk_29_method_70_code_3) rfl ((if0 _ _).trans (tlt hc46).2.2.1) (by decide) (by decide) k) ?_
    refine own_go (T' := s₁) (g' := (mkF m 11 #[.val (.long a), .second, .val (.long b), .second] [(.long b)])) (fun t k => XS.lloadN X0.here hx rfl (hb hby own_d_jdk_29_method_70_code_10) rfl k) ?_
    exact own_ret X0 hlk hx Bd.returns rfl (Or.inr (Or.inl ⟨rfl, rfl, _, rfl⟩)) (hb hby own_d_jdk_29_method_70_code_11) ⟨by simp only [lw_lt, lw_gt] at *; simp [own_min, *], rfl, e0⟩ (by decide) (by decide)
  · refine own_go (T' := s₁) (g' := (mkF m 6 #[.val (.long a), .second, .val (.long b), .second] [])) (fun t k => XS.ifNo X0.here hx rfl (hb hby own_d_jdk_29_method_70_code_3) rfl ((if0 _ _).trans (flt hc46).2.2.1) k) ?_
    refine own_go (T' := s₁) (g' := (mkF m 7 #[.val (.long a), .second, .val (.long b), .second] [(.long a)])) (fun t k => XS.lloadN X0.here hx rfl (hb hby own_d_jdk_29_method_70_code_6) rfl k) ?_
    refine own_go (T' := s₁) (g' := (mkF m 11 #[.val (.long a), .second, .val (.long b), .second] [(.long a)])) (fun t k => XS.goto X0.here hx rfl (pc0 := 7) (pc' := 11) rfl (hb hby own_d_jdk_29_method_70_code_7) (by decide) (by decide) k) ?_
    exact own_ret X0 hlk hx Bd.returns rfl (Or.inr (Or.inl ⟨rfl, rfl, _, rfl⟩)) (hb hby own_d_jdk_29_method_70_code_11) ⟨by simp only [lw_lt, lw_gt] at *; simp [own_min, *], rfl, e0⟩ (by decide) (by decide)

theorem own_d_jdk_29_method_66_code_0 : decode jdk_29_method_66_code 0 = .ok (.lload_n 0, 1) := by decide +kernel
theorem own_d_jdk_29_method_66_code_1 : decode jdk_29_method_66_code 1 = .ok (.lload_n 2, 1) := by decide +kernel
theorem own_d_jdk_29_method_66_code_2 : decode jdk_29_method_66_code 2 = .ok (.lcmp, 1) := by decide +kernel
theorem own_d_jdk_29_method_66_code_3 : decode jdk_29_method_66_code 3 = .ok (.ifCond .lt 7, 3) := by decide +kernel
theorem own_d_jdk_29_method_66_code_6 : decode jdk_29_method_66_code 6 = .ok (.lload_n 0, 1) := by decide +kernel
theorem own_d_jdk_29_method_66_code_7 : decode jdk_29_method_66_code 7 = .ok (.goto 4, 3) := by decide +kernel
theorem own_d_jdk_29_method_66_code_10 : decode jdk_29_method_66_code 10 = .ok (.lload_n 2, 1) := by decide +kernel
theorem own_d_jdk_29_method_66_code_11 : decode jdk_29_method_66_code 11 = .ok (.lreturn, 1) := by decide +kernel
def Q_own_rmax (a b : Int64) (h0 : Heap) (n0 : Nat) (v : Option Value) (h : Heap) (L : List Loc) : Prop := v = some (.long (own_max a b)) ∧ L = [] ∧ h = h0
set_option maxRecDepth 65536 in
set_option maxHeartbeats 40000000 in
theorem own_rmax (l : Launch) (Z : State) (a0 : Array Value) (hw : ∀ d ∈ tables_1, d.before a0 Z = true) (ws : List Jvm.Cond) (a b : Int64) (h0 : Heap) (n0 : Nat) (Z0 : n0 ≤ h0.size)  :
    MetFree l (⟨"java/lang/Math", "max", "(JJ)J"⟩ : MethodName) (head1 (Jvm.Cond.code (⟨"java/lang/Math", "max", "(JJ)J"⟩ : MethodName) jdk_29_method_66_code 4 (some .long) :: ws) ({ frames := 0, cells := 0, slots := 0, locals := 0 } : Room)) (fun au Uu => au = #[(.long a), (.long b)] ∧ Z.Warmed39 Uu.vm ∧ Uu.heap = h0) (fun _ _ _ _ _ => True) (fun _ Uu ou Uw => ∃ vu Lu, ou = .returned vu ∧ Q_own_rmax a b h0 n0 vu Uw.heap Lu ∧ FrameEnd Uu ou Uw Lu ({ frames := 0, cells := 0, slots := 0, locals := 0 } : Room).cells ({ frames := 0, cells := 0, slots := 0, locals := 0 } : Room).slots) := by
  refine MetFree.of_bodySF (Jvm.Free.JP.mathPlain rfl (by decide +kernel)) hisR ?_
  intro p e s m args below meth c s₁ Bd hml0 hP hK
  obtain ⟨rfl, hZ, hh⟩ := hP
  have hx := Bd.exec
  have hby := Bd.bytes
  have hlk := Bd.notSynchronized
  have hml : c.maxLocals = 4 := hml0
  have hown : s.vm.findClass "java/lang/Math" = some m.cls := findClass_of_methodNamed Bd.named
  have hnm := (name_of_methodNamed Bd.named Bd.method).1
  have X0 : Stand p l e ({ frames := 0, cells := 0, slots := 0, locals := 0 } : Room) s m #[(.long a), (.long b)] below meth c s₁ [] 0 0 := Stand.of_body Bd
  have e0 : s₁.heap = h0 := by rw [← hh, Bd.state]; rfl
  have N0 := Fr.nil n0
  show own_Ends p e below s₁ (entryFrame m #[(.long a), (.long b)] 4) (fun ou Uw => ∃ vu Lu, ou = .returned vu ∧ Q_own_rmax a b h0 n0 vu Uw.heap Lu ∧ FrameEnd s ou Uw Lu ({ frames := 0, cells := 0, slots := 0, locals := 0 } : Room).cells ({ frames := 0, cells := 0, slots := 0, locals := 0 } : Room).slots)
  refine own_start (g' := (mkF m 0 #[.val (.long a), .second, .val (.long b), .second] [])) (by first | (simp [entryFrame, mkF, argsToLocals, Value.category, iv, rv]; done) | rfl) ?_
  refine own_go (T' := s₁) (g' := (mkF m 1 #[.val (.long a), .second, .val (.long b), .second] [(.long a)])) (fun t k => XS.lloadN X0.here hx rfl (hb hby own_d_jdk_29_method_66_code_0) rfl k) ?_
  refine own_go (T' := s₁) (g' := (mkF m 2 #[.val (.long a), .second, .val (.long b), .second] [(.long b), (.long a)])) (fun t k => XS.lloadN X0.here hx rfl (hb hby own_d_jdk_29_method_66_code_1) rfl k) ?_
  refine own_go (T' := s₁) (g' := (mkF m 3 #[.val (.long a), .second, .val (.long b), .second] [(.int (lcmpW a b))])) (fun t k => XS.lcmp X0.here hx rfl (hb hby own_d_jdk_29_method_66_code_2) rfl k) ?_
  by_cases hc47 : (lcmpW a b) < (0 : Int32)
  · refine own_go (T' := s₁) (g' := (mkF m 10 #[.val (.long a), .second, .val (.long b), .second] [])) (fun t k => XS.ifYes X0.here hx rfl (pc0 := 3) (pc' := 10) rfl (hb hby own_d_jdk_29_method_66_code_3) rfl ((if0 _ _).trans (tlt hc47).1) (by decide) (by decide) k) ?_
    refine own_go (T' := s₁) (g' := (mkF m 11 #[.val (.long a), .second, .val (.long b), .second] [(.long b)])) (fun t k => XS.lloadN X0.here hx rfl (hb hby own_d_jdk_29_method_66_code_10) rfl k) ?_
    exact own_ret X0 hlk hx Bd.returns rfl (Or.inr (Or.inl ⟨rfl, rfl, _, rfl⟩)) (hb hby own_d_jdk_29_method_66_code_11) ⟨by simp only [lw_lt, lw_gt] at *; simp [own_max, *], rfl, e0⟩ (by decide) (by decide)
  · refine own_go (T' := s₁) (g' := (mkF m 6 #[.val (.long a), .second, .val (.long b), .second] [])) (fun t k => XS.ifNo X0.here hx rfl (hb hby own_d_jdk_29_method_66_code_3) rfl ((if0 _ _).trans (flt hc47).1) k) ?_
    refine own_go (T' := s₁) (g' := (mkF m 7 #[.val (.long a), .second, .val (.long b), .second] [(.long a)])) (fun t k => XS.lloadN X0.here hx rfl (hb hby own_d_jdk_29_method_66_code_6) rfl k) ?_
    refine own_go (T' := s₁) (g' := (mkF m 11 #[.val (.long a), .second, .val (.long b), .second] [(.long a)])) (fun t k => XS.goto X0.here hx rfl (pc0 := 7) (pc' := 11) rfl (hb hby own_d_jdk_29_method_66_code_7) (by decide) (by decide) k) ?_
    exact own_ret X0 hlk hx Bd.returns rfl (Or.inr (Or.inl ⟨rfl, rfl, _, rfl⟩)) (hb hby own_d_jdk_29_method_66_code_11) ⟨by simp only [lw_lt, lw_gt] at *; simp [own_max, *], rfl, e0⟩ (by decide) (by decide)

theorem own_pd1 : parseMethodDescriptor "(JJ)J" = some ⟨[.long, .long], some .long⟩ := by decide +kernel
theorem own_d_method_2_code_0 : decode method_2_code 0 = .ok (.lload_n 2, 1) := by decide +kernel
theorem own_d_method_2_code_1 : decode method_2_code 1 = .ok (.lload 4, 2) := by decide +kernel
theorem own_d_method_2_code_3 : decode method_2_code 3 = .ok (.lcmp, 1) := by decide +kernel
theorem own_d_method_2_code_4 : decode method_2_code 4 = .ok (.ifCond .gt 22, 3) := by decide +kernel
theorem own_d_method_2_code_7 : decode method_2_code 7 = .ok (.lload_n 2, 1) := by decide +kernel
theorem own_d_method_2_code_8 : decode method_2_code 8 = .ok (.lload_n 0, 1) := by decide +kernel
theorem own_d_method_2_code_9 : decode method_2_code 9 = .ok (.lload 4, 2) := by decide +kernel
theorem own_d_method_2_code_11 : decode method_2_code 11 = .ok (.invokestatic 7, 3) := by decide +kernel
theorem own_d_method_2_code_14 : decode method_2_code 14 = .ok (.invokestatic 13, 3) := by decide +kernel
theorem own_d_method_2_code_17 : decode method_2_code 17 = .ok (.lload_n 0, 1) := by decide +kernel
theorem own_d_method_2_code_18 : decode method_2_code 18 = .ok (.lcmp, 1) := by decide +kernel
theorem own_d_method_2_code_19 : decode method_2_code 19 = .ok (.ifCond .ne 7, 3) := by decide +kernel
theorem own_d_method_2_code_22 : decode method_2_code 22 = .ok (.iconst 1, 1) := by decide +kernel
theorem own_d_method_2_code_23 : decode method_2_code 23 = .ok (.goto 4, 3) := by decide +kernel
theorem own_d_method_2_code_26 : decode method_2_code 26 = .ok (.iconst 0, 1) := by decide +kernel
theorem own_d_method_2_code_27 : decode method_2_code 27 = .ok (.ireturn, 1) := by decide +kernel
def Q_own_rin (vv lo hi : Int64) (h0 : Heap) (n0 : Nat) (v : Option Value) (h : Heap) (L : List Loc) : Prop := v = some (.int (own_in vv lo hi)) ∧ L = [] ∧ h = h0
set_option maxRecDepth 65536 in
set_option maxHeartbeats 40000000 in
theorem own_rin (l : Launch) (Z : State) (a0 : Array Value) (hw : ∀ d ∈ tables_1, d.before a0 Z = true) (ws : List Jvm.Cond) (vv lo hi : Int64) (h0 : Heap) (n0 : Nat) (Z0 : n0 ≤ h0.size)  :
    MetFree l (⟨"com/example/piastrella/piastrella/tiles/TileMatrixLimitsContainsPinLaw", "in", "(JJJ)Z"⟩ : MethodName) (head1 (Jvm.Cond.code (⟨"com/example/piastrella/piastrella/tiles/TileMatrixLimitsContainsPinLaw", "in", "(JJJ)Z"⟩ : MethodName) method_2_code 6 (some .boolean) :: ws) ({ frames := 1, cells := 0, slots := 0, locals := 17 } : Room)) (fun au Uu => au = #[(.long vv), (.long lo), (.long hi)] ∧ Z.Warmed39 Uu.vm ∧ Uu.heap = h0) (fun _ _ _ _ _ => True) (fun _ Uu ou Uw => ∃ vu Lu, ou = .returned vu ∧ Q_own_rin vv lo hi h0 n0 vu Uw.heap Lu ∧ FrameEnd Uu ou Uw Lu ({ frames := 1, cells := 0, slots := 0, locals := 17 } : Room).cells ({ frames := 1, cells := 0, slots := 0, locals := 17 } : Room).slots) := by
  refine MetFree.of_bodySF (plainFor_of_name (by first | (simp [plainName, overriddenIn]; done) | decide +kernel)) hisR ?_
  intro p e s m args below meth c s₁ Bd hml0 hP hK
  obtain ⟨rfl, hZ, hh⟩ := hP
  have hx := Bd.exec
  have hby := Bd.bytes
  have hlk := Bd.notSynchronized
  have hml : c.maxLocals = 6 := hml0
  have hown : s.vm.findClass "com/example/piastrella/piastrella/tiles/TileMatrixLimitsContainsPinLaw" = some m.cls := findClass_of_methodNamed Bd.named
  have hnm := (name_of_methodNamed Bd.named Bd.method).1
  have X0 : Stand p l e ({ frames := 1, cells := 0, slots := 0, locals := 17 } : Room) s m #[(.long vv), (.long lo), (.long hi)] below meth c s₁ [] 0 0 := Stand.of_body Bd
  have e0 : s₁.heap = h0 := by rw [← hh, Bd.state]; rfl
  have N0 := Fr.nil n0
  show own_Ends p e below s₁ (entryFrame m #[(.long vv), (.long lo), (.long hi)] 6) (fun ou Uw => ∃ vu Lu, ou = .returned vu ∧ Q_own_rin vv lo hi h0 n0 vu Uw.heap Lu ∧ FrameEnd s ou Uw Lu ({ frames := 1, cells := 0, slots := 0, locals := 17 } : Room).cells ({ frames := 1, cells := 0, slots := 0, locals := 17 } : Room).slots)
  refine own_start (g' := (mkF m 0 #[.val (.long vv), .second, .val (.long lo), .second, .val (.long hi), .second] [])) (by first | (simp [entryFrame, mkF, argsToLocals, Value.category, iv, rv]; done) | rfl) ?_
  refine own_go (T' := s₁) (g' := (mkF m 1 #[.val (.long vv), .second, .val (.long lo), .second, .val (.long hi), .second] [(.long lo)])) (fun t k => XS.lloadN X0.here hx rfl (hb hby own_d_method_2_code_0) rfl k) ?_
  refine own_go (T' := s₁) (g' := (mkF m 3 #[.val (.long vv), .second, .val (.long lo), .second, .val (.long hi), .second] [(.long hi), (.long lo)])) (fun t k => XS.lload X0.here hx rfl (hb hby own_d_method_2_code_1) rfl k) ?_
  refine own_go (T' := s₁) (g' := (mkF m 4 #[.val (.long vv), .second, .val (.long lo), .second, .val (.long hi), .second] [(.int (lcmpW lo hi))])) (fun t k => XS.lcmp X0.here hx rfl (hb hby own_d_method_2_code_3) rfl k) ?_
  by_cases hc48 : (0 : Int32) < (lcmpW lo hi)
  · refine own_go (T' := s₁) (g' := (mkF m 26 #[.val (.long vv), .second, .val (.long lo), .second, .val (.long hi), .second] [])) (fun t k => XS.ifYes X0.here hx rfl (pc0 := 4) (pc' := 26) rfl (hb hby own_d_method_2_code_4) rfl ((if0 _ _).trans (tlt hc48).2.2.1) (by decide) (by decide) k) ?_
    refine own_go (T' := s₁) (g' := (mkF m 27 #[.val (.long vv), .second, .val (.long lo), .second, .val (.long hi), .second] [(.int (0 : Int32))])) (fun t k => XS.iconst X0.here hx rfl (hb hby own_d_method_2_code_26) k) ?_
    exact own_ret X0 hlk hx Bd.returns rfl (Or.inl ⟨rfl, Or.inr (Or.inl rfl), _, rfl⟩) (hb hby own_d_method_2_code_27) ⟨by simp only [lw_lt, lw_gt, lw_eq] at *; simp [own_in, *], rfl, e0⟩ (by decide) (by decide)
  · refine own_go (T' := s₁) (g' := (mkF m 7 #[.val (.long vv), .second, .val (.long lo), .second, .val (.long hi), .second] [])) (fun t k => XS.ifNo X0.here hx rfl (hb hby own_d_method_2_code_4) rfl ((if0 _ _).trans (flt hc48).2.2.1) k) ?_
    refine own_go (T' := s₁) (g' := (mkF m 8 #[.val (.long vv), .second, .val (.long lo), .second, .val (.long hi), .second] [(.long lo)])) (fun t k => XS.lloadN X0.here hx rfl (hb hby own_d_method_2_code_7) rfl k) ?_
    refine own_go (T' := s₁) (g' := (mkF m 9 #[.val (.long vv), .second, .val (.long lo), .second, .val (.long hi), .second] [(.long vv), (.long lo)])) (fun t k => XS.lloadN X0.here hx rfl (hb hby own_d_method_2_code_8) rfl k) ?_
    refine own_go (T' := s₁) (g' := (mkF m 11 #[.val (.long vv), .second, .val (.long lo), .second, .val (.long hi), .second] [(.long hi), (.long vv), (.long lo)])) (fun t k => XS.lload X0.here hx rfl (hb hby own_d_method_2_code_9) rfl k) ?_
    obtain ⟨_, _, ⟨T49, L49, k49, n49⟩, -, X49, ⟨Lc49, hQ49, l49, y49, z49⟩, st49⟩ := Jvm.LawKit.callS X0 hx (y := (⟨"java/lang/Math", "min", "(JJ)J"⟩ : MethodName)) hown (mvT hZ (hw _ (List.mem_of_getElem? (i := 44) rfl))) (mvT hZ (hw _ (List.mem_of_getElem? (i := 45) rfl))) (mvT hZ (hw _ (List.mem_of_getElem? (i := 46) rfl))) (mvT hZ (hw _ (List.mem_of_getElem? (i := 47) rfl))) (by decide) (backOf (W := 2) (own_rmin l Z a0 hw [] vv hi h0 n0 Z0) hZ (hw _ (List.mem_of_getElem? (i := 47) rfl)) (hw _ (List.mem_of_getElem? (i := 46) rfl)) (by decide) (by decide)) (g := (mkF m 11 #[.val (.long vv), .second, .val (.long lo), .second, .val (.long hi), .second] [(.long hi), (.long vv), (.long lo)])) rfl (by rw [hml]; rfl) (argsL := [(.long vv), (.long hi)]) (rest := [(.long lo)]) (lenOf own_pd1 rfl) rfl (by show 2 * 0 + _ ≤ _; exact Nat.le_of_eq rfl) (hb hby own_d_method_2_code_11) (fun _ _ => ⟨rfl, e0, (by decide : 0 + 0 ≤ _), (by decide : 0 + 0 ≤ _)⟩)
    dsimp only [Pt.U, Pt.locs, Pt.cells, Pt.slots] at X49 l49 y49 z49 st49 hQ49
    subst l49 y49 z49
    obtain ⟨rfl, rfl, e49⟩ := hQ49
    have E49q : T49.heap = h0 := e49
    have N49 := Fr.app N0 (Fr.nil n0)
    refine own_go (T' := T49) (g' := (mkF m 14 #[.val (.long vv), .second, .val (.long lo), .second, .val (.long hi), .second] [(.long (own_min vv hi)), (.long lo)])) (st49) ?_
    obtain ⟨_, _, ⟨T50, L50, k50, n50⟩, -, X50, ⟨Lc50, hQ50, l50, y50, z50⟩, st50⟩ := Jvm.LawKit.callS X49 hx (y := (⟨"java/lang/Math", "max", "(JJ)J"⟩ : MethodName)) hown (mvT hZ (hw _ (List.mem_of_getElem? (i := 48) rfl))) (mvT hZ (hw _ (List.mem_of_getElem? (i := 49) rfl))) (mvT hZ (hw _ (List.mem_of_getElem? (i := 46) rfl))) (mvT hZ (hw _ (List.mem_of_getElem? (i := 50) rfl))) (by decide) (backOf (W := 0) (own_rmax l Z a0 hw [] lo (own_min vv hi) h0 n0 Z0) hZ (hw _ (List.mem_of_getElem? (i := 50) rfl)) (hw _ (List.mem_of_getElem? (i := 46) rfl)) (by decide) (by decide)) (g := (mkF m 14 #[.val (.long vv), .second, .val (.long lo), .second, .val (.long hi), .second] [(.long (own_min vv hi)), (.long lo)])) rfl (by rw [hml]; rfl) (argsL := [(.long lo), (.long (own_min vv hi))]) (rest := []) (lenOf own_pd1 rfl) rfl (by show 2 * 0 + _ ≤ _; exact Nat.le_of_eq rfl) (hb hby own_d_method_2_code_14) (fun _ _ => ⟨rfl, E49q, (by decide : 0 + 0 ≤ _), (by decide : 0 + 0 ≤ _)⟩)
    dsimp only [Pt.U, Pt.locs, Pt.cells, Pt.slots] at X50 l50 y50 z50 st50 hQ50
    subst l50 y50 z50
    obtain ⟨rfl, rfl, e50⟩ := hQ50
    have E50q : T50.heap = h0 := e50
    have N50 := Fr.app N49 (Fr.nil n0)
    refine own_go (T' := T50) (g' := (mkF m 17 #[.val (.long vv), .second, .val (.long lo), .second, .val (.long hi), .second] [(.long (own_max lo (own_min vv hi)))])) (st50) ?_
    refine own_go (T' := T50) (g' := (mkF m 18 #[.val (.long vv), .second, .val (.long lo), .second, .val (.long hi), .second] [(.long vv), (.long (own_max lo (own_min vv hi)))])) (fun t k => XS.lloadN X50.here hx rfl (hb hby own_d_method_2_code_17) rfl k) ?_
    refine own_go (T' := T50) (g' := (mkF m 19 #[.val (.long vv), .second, .val (.long lo), .second, .val (.long hi), .second] [(.int (lcmpW (own_max lo (own_min vv hi)) vv))])) (fun t k => XS.lcmp X50.here hx rfl (hb hby own_d_method_2_code_18) rfl k) ?_
    by_cases hc51 : (lcmpW (own_max lo (own_min vv hi)) vv) = (0 : Int32)
    · refine own_go (T' := T50) (g' := (mkF m 22 #[.val (.long vv), .second, .val (.long lo), .second, .val (.long hi), .second] [])) (fun t k => XS.ifNo X50.here hx rfl (hb hby own_d_method_2_code_19) rfl ((if0 _ _).trans (teq hc51).2) k) ?_
      refine own_go (T' := T50) (g' := (mkF m 23 #[.val (.long vv), .second, .val (.long lo), .second, .val (.long hi), .second] [(.int (1 : Int32))])) (fun t k => XS.iconst X50.here hx rfl (hb hby own_d_method_2_code_22) k) ?_
      refine own_go (T' := T50) (g' := (mkF m 27 #[.val (.long vv), .second, .val (.long lo), .second, .val (.long hi), .second] [(.int (1 : Int32))])) (fun t k => XS.goto X50.here hx rfl (pc0 := 23) (pc' := 27) rfl (hb hby own_d_method_2_code_23) (by decide) (by decide) k) ?_
      exact own_ret X50 hlk hx Bd.returns rfl (Or.inl ⟨rfl, Or.inr (Or.inl rfl), _, rfl⟩) (hb hby own_d_method_2_code_27) ⟨by simp only [lw_lt, lw_gt, lw_eq] at *; simp [own_in, *], rfl, E50q⟩ (by decide) (by decide)
    · refine own_go (T' := T50) (g' := (mkF m 26 #[.val (.long vv), .second, .val (.long lo), .second, .val (.long hi), .second] [])) (fun t k => XS.ifYes X50.here hx rfl (pc0 := 19) (pc' := 26) rfl (hb hby own_d_method_2_code_19) rfl ((if0 _ _).trans (feq hc51).2) (by decide) (by decide) k) ?_
      refine own_go (T' := T50) (g' := (mkF m 27 #[.val (.long vv), .second, .val (.long lo), .second, .val (.long hi), .second] [(.int (0 : Int32))])) (fun t k => XS.iconst X50.here hx rfl (hb hby own_d_method_2_code_26) k) ?_
      exact own_ret X50 hlk hx Bd.returns rfl (Or.inl ⟨rfl, Or.inr (Or.inl rfl), _, rfl⟩) (hb hby own_d_method_2_code_27) ⟨by simp only [lw_lt, lw_gt, lw_eq] at *; simp [own_in, *], rfl, E50q⟩ (by decide) (by decide)

theorem own_pd2 : parseMethodDescriptor "(JJJ)Z" = some ⟨[.long, .long, .long], some .boolean⟩ := by decide +kernel
theorem own_d_method_3_code_0 : decode method_3_code 0 = .ok (.lload_n 0, 1) := by decide +kernel
theorem own_d_method_3_code_1 : decode method_3_code 1 = .ok (.lload 4, 2) := by decide +kernel
theorem own_d_method_3_code_3 : decode method_3_code 3 = .ok (.lload 6, 2) := by decide +kernel
theorem own_d_method_3_code_5 : decode method_3_code 5 = .ok (.invokestatic 16, 3) := by decide +kernel
theorem own_d_method_3_code_8 : decode method_3_code 8 = .ok (.ifCond .eq 18, 3) := by decide +kernel
theorem own_d_method_3_code_11 : decode method_3_code 11 = .ok (.lload_n 2, 1) := by decide +kernel
theorem own_d_method_3_code_12 : decode method_3_code 12 = .ok (.lload 8, 2) := by decide +kernel
theorem own_d_method_3_code_14 : decode method_3_code 14 = .ok (.lload 10, 2) := by decide +kernel
theorem own_d_method_3_code_16 : decode method_3_code 16 = .ok (.invokestatic 16, 3) := by decide +kernel
theorem own_d_method_3_code_19 : decode method_3_code 19 = .ok (.ifCond .eq 7, 3) := by decide +kernel
theorem own_d_method_3_code_22 : decode method_3_code 22 = .ok (.iconst 1, 1) := by decide +kernel
theorem own_d_method_3_code_23 : decode method_3_code 23 = .ok (.goto 4, 3) := by decide +kernel
theorem own_d_method_3_code_26 : decode method_3_code 26 = .ok (.iconst 0, 1) := by decide +kernel
theorem own_d_method_3_code_27 : decode method_3_code 27 = .ok (.ireturn, 1) := by decide +kernel
def Q_own_rref (r cc a b d ee : Int64) (h0 : Heap) (n0 : Nat) (v : Option Value) (h : Heap) (L : List Loc) : Prop := v = some (.int (own_ref r cc a b d ee)) ∧ L = [] ∧ h = h0
set_option maxRecDepth 65536 in
set_option maxHeartbeats 40000000 in
theorem own_rref (l : Launch) (Z : State) (a0 : Array Value) (hw : ∀ d ∈ tables_1, d.before a0 Z = true) (ws : List Jvm.Cond) (r cc a b d ee : Int64) (h0 : Heap) (n0 : Nat) (Z0 : n0 ≤ h0.size)  :
    MetFree l (⟨"com/example/piastrella/piastrella/tiles/TileMatrixLimitsContainsPinLaw", "ref", "(JJJJJJ)Z"⟩ : MethodName) (head1 (Jvm.Cond.code (⟨"com/example/piastrella/piastrella/tiles/TileMatrixLimitsContainsPinLaw", "ref", "(JJJJJJ)Z"⟩ : MethodName) method_3_code 12 (some .boolean) :: ws) ({ frames := 2, cells := 0, slots := 0, locals := 34 } : Room)) (fun au Uu => au = #[(.long r), (.long cc), (.long a), (.long b), (.long d), (.long ee)] ∧ Z.Warmed39 Uu.vm ∧ Uu.heap = h0) (fun _ _ _ _ _ => True) (fun _ Uu ou Uw => ∃ vu Lu, ou = .returned vu ∧ Q_own_rref r cc a b d ee h0 n0 vu Uw.heap Lu ∧ FrameEnd Uu ou Uw Lu ({ frames := 2, cells := 0, slots := 0, locals := 34 } : Room).cells ({ frames := 2, cells := 0, slots := 0, locals := 34 } : Room).slots) := by
  refine MetFree.of_bodySF (plainFor_of_name (by first | (simp [plainName, overriddenIn]; done) | decide +kernel)) hisR ?_
  intro p e s m args below meth c s₁ Bd hml0 hP hK
  obtain ⟨rfl, hZ, hh⟩ := hP
  have hx := Bd.exec
  have hby := Bd.bytes
  have hlk := Bd.notSynchronized
  have hml : c.maxLocals = 12 := hml0
  have hown : s.vm.findClass "com/example/piastrella/piastrella/tiles/TileMatrixLimitsContainsPinLaw" = some m.cls := findClass_of_methodNamed Bd.named
  have hnm := (name_of_methodNamed Bd.named Bd.method).1
  have X0 : Stand p l e ({ frames := 2, cells := 0, slots := 0, locals := 34 } : Room) s m #[(.long r), (.long cc), (.long a), (.long b), (.long d), (.long ee)] below meth c s₁ [] 0 0 := Stand.of_body Bd
  have e0 : s₁.heap = h0 := by rw [← hh, Bd.state]; rfl
  have N0 := Fr.nil n0
  show own_Ends p e below s₁ (entryFrame m #[(.long r), (.long cc), (.long a), (.long b), (.long d), (.long ee)] 12) (fun ou Uw => ∃ vu Lu, ou = .returned vu ∧ Q_own_rref r cc a b d ee h0 n0 vu Uw.heap Lu ∧ FrameEnd s ou Uw Lu ({ frames := 2, cells := 0, slots := 0, locals := 34 } : Room).cells ({ frames := 2, cells := 0, slots := 0, locals := 34 } : Room).slots)
  refine own_start (g' := (mkF m 0 #[.val (.long r), .second, .val (.long cc), .second, .val (.long a), .second, .val (.long b), .second, .val (.long d), .second, .val (.long ee), .second] [])) (by first | (simp [entryFrame, mkF, argsToLocals, Value.category, iv, rv]; done) | rfl) ?_
  refine own_go (T' := s₁) (g' := (mkF m 1 #[.val (.long r), .second, .val (.long cc), .second, .val (.long a), .second, .val (.long b), .second, .val (.long d), .second, .val (.long ee), .second] [(.long r)])) (fun t k => XS.lloadN X0.here hx rfl (hb hby own_d_method_3_code_0) rfl k) ?_
  refine own_go (T' := s₁) (g' := (mkF m 3 #[.val (.long r), .second, .val (.long cc), .second, .val (.long a), .second, .val (.long b), .second, .val (.long d), .second, .val (.long ee), .second] [(.long a), (.long r)])) (fun t k => XS.lload X0.here hx rfl (hb hby own_d_method_3_code_1) rfl k) ?_
  refine own_go (T' := s₁) (g' := (mkF m 5 #[.val (.long r), .second, .val (.long cc), .second, .val (.long a), .second, .val (.long b), .second, .val (.long d), .second, .val (.long ee), .second] [(.long b), (.long a), (.long r)])) (fun t k => XS.lload X0.here hx rfl (hb hby own_d_method_3_code_3) rfl k) ?_
  obtain ⟨_, _, ⟨T52, L52, k52, n52⟩, -, X52, ⟨Lc52, hQ52, l52, y52, z52⟩, st52⟩ := Jvm.LawKit.callS X0 hx (y := (⟨"com/example/piastrella/piastrella/tiles/TileMatrixLimitsContainsPinLaw", "in", "(JJJ)Z"⟩ : MethodName)) hown (mvT hZ (hw _ (List.mem_of_getElem? (i := 41) rfl))) (mvT hZ (hw _ (List.mem_of_getElem? (i := 42) rfl))) (mvT hZ (hw _ (List.mem_of_getElem? (i := 39) rfl))) (mvT hZ (hw _ (List.mem_of_getElem? (i := 43) rfl))) (by decide) (backOf (W := 0) (own_rin l Z a0 hw [] r a b h0 n0 Z0) hZ (hw _ (List.mem_of_getElem? (i := 43) rfl)) (hw _ (List.mem_of_getElem? (i := 39) rfl)) (by decide) (by decide)) (g := (mkF m 5 #[.val (.long r), .second, .val (.long cc), .second, .val (.long a), .second, .val (.long b), .second, .val (.long d), .second, .val (.long ee), .second] [(.long b), (.long a), (.long r)])) rfl (by rw [hml]; rfl) (argsL := [(.long r), (.long a), (.long b)]) (rest := []) (lenOf own_pd2 rfl) rfl (by show 2 * 0 + _ ≤ _; exact Nat.le_of_eq rfl) (hb hby own_d_method_3_code_5) (fun _ _ => ⟨rfl, e0, (by decide : 0 + 0 ≤ _), (by decide : 0 + 0 ≤ _)⟩)
  dsimp only [Pt.U, Pt.locs, Pt.cells, Pt.slots] at X52 l52 y52 z52 st52 hQ52
  subst l52 y52 z52
  obtain ⟨rfl, rfl, e52⟩ := hQ52
  have E52q : T52.heap = h0 := e52
  have N52 := Fr.app N0 (Fr.nil n0)
  refine own_go (T' := T52) (g' := (mkF m 8 #[.val (.long r), .second, .val (.long cc), .second, .val (.long a), .second, .val (.long b), .second, .val (.long d), .second, .val (.long ee), .second] [(.int (own_in r a b))])) (st52) ?_
  by_cases hc53 : (own_in r a b) = (0 : Int32)
  · refine own_go (T' := T52) (g' := (mkF m 26 #[.val (.long r), .second, .val (.long cc), .second, .val (.long a), .second, .val (.long b), .second, .val (.long d), .second, .val (.long ee), .second] [])) (fun t k => XS.ifYes X52.here hx rfl (pc0 := 8) (pc' := 26) rfl (hb hby own_d_method_3_code_8) rfl ((if0 _ _).trans (teq hc53).1) (by decide) (by decide) k) ?_
    refine own_go (T' := T52) (g' := (mkF m 27 #[.val (.long r), .second, .val (.long cc), .second, .val (.long a), .second, .val (.long b), .second, .val (.long d), .second, .val (.long ee), .second] [(.int (0 : Int32))])) (fun t k => XS.iconst X52.here hx rfl (hb hby own_d_method_3_code_26) k) ?_
    exact own_ret X52 hlk hx Bd.returns rfl (Or.inl ⟨rfl, Or.inr (Or.inl rfl), _, rfl⟩) (hb hby own_d_method_3_code_27) ⟨by simp [own_ref, hc53], rfl, E52q⟩ (by decide) (by decide)
  · refine own_go (T' := T52) (g' := (mkF m 11 #[.val (.long r), .second, .val (.long cc), .second, .val (.long a), .second, .val (.long b), .second, .val (.long d), .second, .val (.long ee), .second] [])) (fun t k => XS.ifNo X52.here hx rfl (hb hby own_d_method_3_code_8) rfl ((if0 _ _).trans (feq hc53).1) k) ?_
    refine own_go (T' := T52) (g' := (mkF m 12 #[.val (.long r), .second, .val (.long cc), .second, .val (.long a), .second, .val (.long b), .second, .val (.long d), .second, .val (.long ee), .second] [(.long cc)])) (fun t k => XS.lloadN X52.here hx rfl (hb hby own_d_method_3_code_11) rfl k) ?_
    refine own_go (T' := T52) (g' := (mkF m 14 #[.val (.long r), .second, .val (.long cc), .second, .val (.long a), .second, .val (.long b), .second, .val (.long d), .second, .val (.long ee), .second] [(.long d), (.long cc)])) (fun t k => XS.lload X52.here hx rfl (hb hby own_d_method_3_code_12) rfl k) ?_
    refine own_go (T' := T52) (g' := (mkF m 16 #[.val (.long r), .second, .val (.long cc), .second, .val (.long a), .second, .val (.long b), .second, .val (.long d), .second, .val (.long ee), .second] [(.long ee), (.long d), (.long cc)])) (fun t k => XS.lload X52.here hx rfl (hb hby own_d_method_3_code_14) rfl k) ?_
    obtain ⟨_, _, ⟨T54, L54, k54, n54⟩, -, X54, ⟨Lc54, hQ54, l54, y54, z54⟩, st54⟩ := Jvm.LawKit.callS X52 hx (y := (⟨"com/example/piastrella/piastrella/tiles/TileMatrixLimitsContainsPinLaw", "in", "(JJJ)Z"⟩ : MethodName)) hown (mvT hZ (hw _ (List.mem_of_getElem? (i := 41) rfl))) (mvT hZ (hw _ (List.mem_of_getElem? (i := 42) rfl))) (mvT hZ (hw _ (List.mem_of_getElem? (i := 39) rfl))) (mvT hZ (hw _ (List.mem_of_getElem? (i := 43) rfl))) (by decide) (backOf (W := 0) (own_rin l Z a0 hw [] cc d ee h0 n0 Z0) hZ (hw _ (List.mem_of_getElem? (i := 43) rfl)) (hw _ (List.mem_of_getElem? (i := 39) rfl)) (by decide) (by decide)) (g := (mkF m 16 #[.val (.long r), .second, .val (.long cc), .second, .val (.long a), .second, .val (.long b), .second, .val (.long d), .second, .val (.long ee), .second] [(.long ee), (.long d), (.long cc)])) rfl (by rw [hml]; rfl) (argsL := [(.long cc), (.long d), (.long ee)]) (rest := []) (lenOf own_pd2 rfl) rfl (by show 2 * 0 + _ ≤ _; exact Nat.le_of_eq rfl) (hb hby own_d_method_3_code_16) (fun _ _ => ⟨rfl, E52q, (by decide : 0 + 0 ≤ _), (by decide : 0 + 0 ≤ _)⟩)
    dsimp only [Pt.U, Pt.locs, Pt.cells, Pt.slots] at X54 l54 y54 z54 st54 hQ54
    subst l54 y54 z54
    obtain ⟨rfl, rfl, e54⟩ := hQ54
    have E54q : T54.heap = h0 := e54
    have N54 := Fr.app N52 (Fr.nil n0)
    refine own_go (T' := T54) (g' := (mkF m 19 #[.val (.long r), .second, .val (.long cc), .second, .val (.long a), .second, .val (.long b), .second, .val (.long d), .second, .val (.long ee), .second] [(.int (own_in cc d ee))])) (st54) ?_
    by_cases hc55 : (own_in cc d ee) = (0 : Int32)
    · refine own_go (T' := T54) (g' := (mkF m 26 #[.val (.long r), .second, .val (.long cc), .second, .val (.long a), .second, .val (.long b), .second, .val (.long d), .second, .val (.long ee), .second] [])) (fun t k => XS.ifYes X54.here hx rfl (pc0 := 19) (pc' := 26) rfl (hb hby own_d_method_3_code_19) rfl ((if0 _ _).trans (teq hc55).1) (by decide) (by decide) k) ?_
      refine own_go (T' := T54) (g' := (mkF m 27 #[.val (.long r), .second, .val (.long cc), .second, .val (.long a), .second, .val (.long b), .second, .val (.long d), .second, .val (.long ee), .second] [(.int (0 : Int32))])) (fun t k => XS.iconst X54.here hx rfl (hb hby own_d_method_3_code_26) k) ?_
      exact own_ret X54 hlk hx Bd.returns rfl (Or.inl ⟨rfl, Or.inr (Or.inl rfl), _, rfl⟩) (hb hby own_d_method_3_code_27) ⟨by simp [own_ref, hc53, hc55], rfl, E54q⟩ (by decide) (by decide)
    · refine own_go (T' := T54) (g' := (mkF m 22 #[.val (.long r), .second, .val (.long cc), .second, .val (.long a), .second, .val (.long b), .second, .val (.long d), .second, .val (.long ee), .second] [])) (fun t k => XS.ifNo X54.here hx rfl (hb hby own_d_method_3_code_19) rfl ((if0 _ _).trans (feq hc55).1) k) ?_
      refine own_go (T' := T54) (g' := (mkF m 23 #[.val (.long r), .second, .val (.long cc), .second, .val (.long a), .second, .val (.long b), .second, .val (.long d), .second, .val (.long ee), .second] [(.int (1 : Int32))])) (fun t k => XS.iconst X54.here hx rfl (hb hby own_d_method_3_code_22) k) ?_
      refine own_go (T' := T54) (g' := (mkF m 27 #[.val (.long r), .second, .val (.long cc), .second, .val (.long a), .second, .val (.long b), .second, .val (.long d), .second, .val (.long ee), .second] [(.int (1 : Int32))])) (fun t k => XS.goto X54.here hx rfl (pc0 := 23) (pc' := 27) rfl (hb hby own_d_method_3_code_23) (by decide) (by decide) k) ?_
      exact own_ret X54 hlk hx Bd.returns rfl (Or.inl ⟨rfl, Or.inr (Or.inl rfl), _, rfl⟩) (hb hby own_d_method_3_code_27) ⟨by simp [own_ref, hc53, hc55], rfl, E54q⟩ (by decide) (by decide)

theorem own_pd4 : parseMethodDescriptor "(JJ)Z" = some ⟨[.long, .long], some .boolean⟩ := by decide +kernel
theorem own_pd5 : parseMethodDescriptor "(JJJJJJ)Z" = some ⟨[.long, .long, .long, .long, .long, .long], some .boolean⟩ := by decide +kernel
theorem own_pd3 : parseMethodDescriptor "(Ljava/lang/String;JJJJ)V" = some ⟨[(.object "java/lang/String"), .long, .long, .long, .long], none⟩ := by decide +kernel
def Q_own_law (h0 : Heap) (n0 : Nat) (v : Option Value) (h : Heap) (L : List Loc) : Prop := v = some (.int 1) ∧ Fr n0 L
set_option maxRecDepth 65536 in
set_option maxHeartbeats 40000000 in
theorem own_law (l : Launch) (Z : State) (a0 : Array Value) (hw : ∀ d ∈ tables_1, d.before a0 Z = true) (ws : List Jvm.Cond) (x0 x1 x2 x3 x4 x5 : Int64) (h0 : Heap) (n0 : Nat) (Z0 : n0 ≤ h0.size)  :
    MetFree l x (head1 (Jvm.Cond.code x code maxLocals ret :: ws) room_1) (fun au Uu => au = #[(.long x0), (.long x1), (.long x2), (.long x3), (.long x4), (.long x5)] ∧ Z.Warmed39 Uu.vm ∧ Uu.heap = h0) (fun _ _ _ _ _ => True) (fun _ Uu ou Uw => ∃ vu Lu, ou = .returned vu ∧ Q_own_law h0 n0 vu Uw.heap Lu ∧ ReturnedEndW Uu ou Uw Lu 16 1152) := by
  refine MetFree.of_bodySF (plainFor_of_name (by first | (simp [plainName, overriddenIn]; done) | decide +kernel)) hisR ?_
  intro p e s m args below meth c s₁ Bd hml0 hP hK
  obtain ⟨rfl, hZ, hh⟩ := hP
  have hx := Bd.exec
  have hby := Bd.bytes
  have hlk := Bd.notSynchronized
  have hml : c.maxLocals = 14 := hml0
  have hown : s.vm.findClass "com/example/piastrella/piastrella/tiles/TileMatrixLimitsContainsPinLaw" = some m.cls := findClass_of_methodNamed Bd.named
  have hnm := (name_of_methodNamed Bd.named Bd.method).1
  have X0 : Stand p l e room_1 s m #[(.long x0), (.long x1), (.long x2), (.long x3), (.long x4), (.long x5)] below meth c s₁ [] 0 0 := Stand.of_body Bd
  have e0 : s₁.heap = h0 := by rw [← hh, Bd.state]; rfl
  have N0 := Fr.nil n0
  show own_Ends p e below s₁ (entryFrame m #[(.long x0), (.long x1), (.long x2), (.long x3), (.long x4), (.long x5)] maxLocals) (fun ou Uw => ∃ vu Lu, ou = .returned vu ∧ Q_own_law h0 n0 vu Uw.heap Lu ∧ ReturnedEndW s ou Uw Lu 16 1152)
  refine own_start (g' := (mkF m 0 #[.val (.long x0), .second, .val (.long x1), .second, .val (.long x2), .second, .val (.long x3), .second, .val (.long x4), .second, .val (.long x5), .second, .unset, .unset] [])) (by first | (simp [entryFrame, mkF, argsToLocals, Value.category, iv, rv, maxLocals]; done) | rfl) ?_
  obtain ⟨T56, h56, X56, e56, E56, A56, D56, -, st56⟩ := newO X0 hx hZ hown (hw _ (List.mem_of_getElem? (i := 0) rfl)) (hw _ (List.mem_of_getElem? (i := 1) rfl)) (hw _ (List.mem_of_getElem? (i := 2) rfl)) e0 (g := (mkF m 0 #[.val (.long x0), .second, .val (.long x1), .second, .val (.long x2), .second, .val (.long x3), .second, .val (.long x4), .second, .val (.long x5), .second, .unset, .unset] [])) rfl (hb hby at_0) (by decide) (by decide)
  obtain ⟨b56, g56⟩ : ∃ z, z = h0.size := ⟨_, rfl⟩
  rw [← g56] at A56 D56 st56
  have gn56 : n0 ≤ b56 := Nat.le_trans Z0 (Nat.le_of_eq g56.symm)
  have hz56 : n0 ≤ h56.size := Nat.le_trans Z0 E56.1
  have F56_tileMatrix : Fld Z h56 b56 "com/example/piastrella/piastrella/tiles/TileMatrixLimits" "tileMatrix" "Ljava/lang/String;" .null := D56 (Or.inr (hw _ (List.mem_of_getElem? (i := 23) rfl))) (ty := (.object "java/lang/String")) (by decide)
  have F56_minTileRow : Fld Z h56 b56 "com/example/piastrella/piastrella/tiles/TileMatrixLimits" "minTileRow" "J" (.long (0 : Int64)) := D56 (Or.inr (hw _ (List.mem_of_getElem? (i := 25) rfl))) (ty := .long) (by decide)
  have F56_maxTileRow : Fld Z h56 b56 "com/example/piastrella/piastrella/tiles/TileMatrixLimits" "maxTileRow" "J" (.long (0 : Int64)) := D56 (Or.inr (hw _ (List.mem_of_getElem? (i := 27) rfl))) (ty := .long) (by decide)
  have F56_minTileCol : Fld Z h56 b56 "com/example/piastrella/piastrella/tiles/TileMatrixLimits" "minTileCol" "J" (.long (0 : Int64)) := D56 (Or.inr (hw _ (List.mem_of_getElem? (i := 29) rfl))) (ty := .long) (by decide)
  have F56_maxTileCol : Fld Z h56 b56 "com/example/piastrella/piastrella/tiles/TileMatrixLimits" "maxTileCol" "J" (.long (0 : Int64)) := D56 (Or.inr (hw _ (List.mem_of_getElem? (i := 31) rfl))) (ty := .long) (by decide)
  refine own_go (T' := T56) (g' := (mkF m 3 #[.val (.long x0), .second, .val (.long x1), .second, .val (.long x2), .second, .val (.long x3), .second, .val (.long x4), .second, .val (.long x5), .second, .unset, .unset] [(.ref b56)])) (st56) ?_
  refine own_go (T' := T56) (g' := (mkF m 4 #[.val (.long x0), .second, .val (.long x1), .second, .val (.long x2), .second, .val (.long x3), .second, .val (.long x4), .second, .val (.long x5), .second, .unset, .unset] [(.ref b56), (.ref b56)])) (fun t k => XS.dup X56.here hx rfl (hb hby at_3) rfl rfl k) ?_
  obtain ⟨aS, T57, h57, kS, X57, e57, E57, hS, hk57, hZ, hown, st57⟩ := ldcS (vm0 := s.vm) X56 hx hZ hown (hw _ (List.mem_of_getElem? (i := 3) rfl)) (by intro a ha; simp only [Bundle.stringAtoms, List.mem_cons, List.not_mem_nil, or_false] at ha; rcases ha with rfl | rfl | rfl | rfl | rfl | rfl | rfl; exact (hw _ (List.mem_of_getElem? (i := 4) rfl)); exact (hw _ (List.mem_of_getElem? (i := 5) rfl)); exact (hw _ (List.mem_of_getElem? (i := 6) rfl)); exact (hw _ (List.mem_of_getElem? (i := 7) rfl)); exact (hw _ (List.mem_of_getElem? (i := 8) rfl)); exact (hw _ (List.mem_of_getElem? (i := 9) rfl)); exact (hw _ (List.mem_of_getElem? (i := 10) rfl))) e56 ((State.WarmedH.refl s).since 0) (Nat.zero_le _) (g := (mkF m 4 #[.val (.long x0), .second, .val (.long x1), .second, .val (.long x2), .second, .val (.long x3), .second, .val (.long x4), .second, .val (.long x5), .second, .unset, .unset] [(.ref b56), (.ref b56)])) rfl (hb hby at_4) (n := 4) (by decide) (by decide) (by decide) (by decide)
  have hz57 : n0 ≤ h57.size := Nat.le_trans hz56 E57.1
  have c58 := A56.ext E57
  have c59 := F56_tileMatrix.ext E57
  have c60 := F56_minTileRow.ext E57
  have c61 := F56_maxTileRow.ext E57
  have c62 := F56_minTileCol.ext E57
  have c63 := F56_maxTileCol.ext E57
  refine own_go (T' := T57) (g' := (mkF m 6 #[.val (.long x0), .second, .val (.long x1), .second, .val (.long x2), .second, .val (.long x3), .second, .val (.long x4), .second, .val (.long x5), .second, .unset, .unset] [(.ref aS), (.ref b56), (.ref b56)])) (st57) ?_
  refine own_go (T' := T57) (g' := (mkF m 7 #[.val (.long x0), .second, .val (.long x1), .second, .val (.long x2), .second, .val (.long x3), .second, .val (.long x4), .second, .val (.long x5), .second, .unset, .unset] [(.long x0), (.ref aS), (.ref b56), (.ref b56)])) (fun t k => XS.lloadN X57.here hx rfl (hb hby at_6) rfl k) ?_
  refine own_go (T' := T57) (g' := (mkF m 8 #[.val (.long x0), .second, .val (.long x1), .second, .val (.long x2), .second, .val (.long x3), .second, .val (.long x4), .second, .val (.long x5), .second, .unset, .unset] [(.long x1), (.long x0), (.ref aS), (.ref b56), (.ref b56)])) (fun t k => XS.lloadN X57.here hx rfl (hb hby at_7) rfl k) ?_
  refine own_go (T' := T57) (g' := (mkF m 10 #[.val (.long x0), .second, .val (.long x1), .second, .val (.long x2), .second, .val (.long x3), .second, .val (.long x4), .second, .val (.long x5), .second, .unset, .unset] [(.long x2), (.long x1), (.long x0), (.ref aS), (.ref b56), (.ref b56)])) (fun t k => XS.lload X57.here hx rfl (hb hby at_8) rfl k) ?_
  refine own_go (T' := T57) (g' := (mkF m 12 #[.val (.long x0), .second, .val (.long x1), .second, .val (.long x2), .second, .val (.long x3), .second, .val (.long x4), .second, .val (.long x5), .second, .unset, .unset] [(.long x3), (.long x2), (.long x1), (.long x0), (.ref aS), (.ref b56), (.ref b56)])) (fun t k => XS.lload X57.here hx rfl (hb hby at_10) rfl k) ?_
  obtain ⟨_, _, ⟨T64, L64, k64, n64⟩, -, X64, ⟨Lc64, hQ64, l64, y64, z64⟩, st64⟩ := X57.specialBack hx (y := (⟨"com/example/piastrella/piastrella/tiles/TileMatrixLimits", "<init>", "(Ljava/lang/String;JJJJ)V"⟩ : MethodName)) rfl hown (mvT hZ (hw _ (List.mem_of_getElem? (i := 11) rfl))) (mvT hZ (hw _ (List.mem_of_getElem? (i := 12) rfl))) (mvT hZ (hw _ (List.mem_of_getElem? (i := 13) rfl))) (by decide) (backOf (W := 1) (own_rinit l Z a0 hw [] b56 aS x0 x1 x2 x3 h57 n0 hz57 c58 gn56 c59 c60 c61 c62 c63) hZ (hw _ (List.mem_of_getElem? (i := 13) rfl)) (hw _ (List.mem_of_getElem? (i := 2) rfl)) (by decide) (by decide)) (g := (mkF m 12 #[.val (.long x0), .second, .val (.long x1), .second, .val (.long x2), .second, .val (.long x3), .second, .val (.long x4), .second, .val (.long x5), .second, .unset, .unset] [(.long x3), (.long x2), (.long x1), (.long x0), (.ref aS), (.ref b56), (.ref b56)])) rfl (by rw [hml]; rfl) (Steps.refl _) (a := b56) (argsL := [(.ref aS), (.long x0), (.long x1), (.long x2), (.long x3)]) (rest := [(.ref b56)]) (lenOf own_pd3 rfl) rfl (by show 2 * 0 + _ ≤ _; exact Nat.le_of_eq rfl) (hb hby at_12) (fun _ _ => ⟨rfl, e57, (by decide : 3 + 0 ≤ _), (by decide : 13 + 0 ≤ _)⟩)
  dsimp only [Pt.U, Pt.locs, Pt.cells, Pt.slots] at X64 l64 y64 z64 st64 hQ64
  subst l64 y64 z64
  obtain ⟨rfl, N64q, K_64, e_64, f0_64, f1_64, f2_64, f3_64⟩ := hQ64
  have N64 := Fr.app N0 N64q
  have c66 := c58.keep K_64
  have hz64 : n0 ≤ T64.heap.size := Nat.le_trans hz57 K_64.1
  have hkq64 : kS ≤ T64.heap.size := Nat.le_trans hk57 K_64.1
  refine own_go (T' := T64) (g' := (mkF m 15 #[.val (.long x0), .second, .val (.long x1), .second, .val (.long x2), .second, .val (.long x3), .second, .val (.long x4), .second, .val (.long x5), .second, .unset, .unset] [(.ref b56)])) (fun t k => st64.trans k) ?_
  refine own_go (T' := T64) (g' := (mkF m 17 #[.val (.long x0), .second, .val (.long x1), .second, .val (.long x2), .second, .val (.long x3), .second, .val (.long x4), .second, .val (.long x5), .second, rv b56, .unset] [])) (fun t k => XS.astore X64.here hx rfl (hb hby at_15) rfl rfl (l' := #[.val (.long x0), .second, .val (.long x1), .second, .val (.long x2), .second, .val (.long x3), .second, .val (.long x4), .second, .val (.long x5), .second, rv b56, .unset]) rfl k) ?_
  refine own_go (T' := T64) (g' := (mkF m 19 #[.val (.long x0), .second, .val (.long x1), .second, .val (.long x2), .second, .val (.long x3), .second, .val (.long x4), .second, .val (.long x5), .second, rv b56, .unset] [(.ref b56)])) (fun t k => XS.aload X64.here hx rfl (hb hby at_17) rfl rfl k) ?_
  refine own_go (T' := T64) (g' := (mkF m 21 #[.val (.long x0), .second, .val (.long x1), .second, .val (.long x2), .second, .val (.long x3), .second, .val (.long x4), .second, .val (.long x5), .second, rv b56, .unset] [(.long x4), (.ref b56)])) (fun t k => XS.lload X64.here hx rfl (hb hby at_19) rfl k) ?_
  refine own_go (T' := T64) (g' := (mkF m 23 #[.val (.long x0), .second, .val (.long x1), .second, .val (.long x2), .second, .val (.long x3), .second, .val (.long x4), .second, .val (.long x5), .second, rv b56, .unset] [(.long x5), (.long x4), (.ref b56)])) (fun t k => XS.lload X64.here hx rfl (hb hby at_21) rfl k) ?_
  obtain ⟨cq72, kq72, q72a, q72b, q72c⟩ := isOf hZ rfl e_64
  obtain ⟨_, _, ⟨T72, L72, k72, n72⟩, -, X72, ⟨Lc72, hQ72, l72, y72, z72⟩, st72⟩ := X64.virtualBack hx (y := (⟨"com/example/piastrella/piastrella/tiles/TileMatrixLimits", "contains", "(JJ)Z"⟩ : MethodName)) (z := (⟨"com/example/piastrella/piastrella/tiles/TileMatrixLimits", "contains", "(JJ)Z"⟩ : MethodName)) hown (mvT hZ (hw _ (List.mem_of_getElem? (i := 32) rfl))) (mvT hZ (hw _ (List.mem_of_getElem? (i := 33) rfl))) (notFace_of_selects (args := #[]) (mvT hZ (hw _ (List.mem_of_getElem? (i := 35) rfl)))) (mvT hZ (hw _ (List.mem_of_getElem? (i := 35) rfl))) (mvT hZ (hw _ (List.mem_of_getElem? (i := 34) rfl))) (by decide) (backOf (W := 0) (own_rcont l Z a0 hw [] b56 x4 x5 x0 x1 x2 x3 T64.heap n0 hz64 f0_64 f1_64 f2_64 f3_64) hZ (hw _ (List.mem_of_getElem? (i := 36) rfl)) (hw _ (List.mem_of_getElem? (i := 2) rfl)) (by decide) (by decide)) q72a q72c (g := (mkF m 23 #[.val (.long x0), .second, .val (.long x1), .second, .val (.long x2), .second, .val (.long x3), .second, .val (.long x4), .second, .val (.long x5), .second, rv b56, .unset] [(.long x5), (.long x4), (.ref b56)])) rfl (by rw [hml]; rfl) (Steps.refl _) (argsL := [(.long x4), (.long x5)]) (rest := []) (lenOf own_pd4 rfl) rfl (by show 2 * 0 + _ ≤ _; exact Nat.le_of_eq rfl) (hb hby at_23) (fun _ _ => ⟨rfl, rfl, (by decide : 3 + 0 ≤ _), (by decide : 13 + 0 ≤ _)⟩)
  dsimp only [Pt.U, Pt.locs, Pt.cells, Pt.slots] at X72 l72 y72 z72 st72 hQ72
  subst l72 y72 z72
  obtain ⟨rfl, rfl, e72⟩ := hQ72
  have E72q : T72.heap = T64.heap := e72
  have N72 := Fr.app N64 (Fr.nil n0)
  refine own_go (T' := T72) (g' := (mkF m 26 #[.val (.long x0), .second, .val (.long x1), .second, .val (.long x2), .second, .val (.long x3), .second, .val (.long x4), .second, .val (.long x5), .second, rv b56, .unset] [(.int (own_cont x4 x5 x0 x1 x2 x3))])) (fun t k => st72.trans k) ?_
  refine own_go (T' := T72) (g' := (mkF m 28 #[.val (.long x0), .second, .val (.long x1), .second, .val (.long x2), .second, .val (.long x3), .second, .val (.long x4), .second, .val (.long x5), .second, rv b56, .unset] [(.long x4), (.int (own_cont x4 x5 x0 x1 x2 x3))])) (fun t k => XS.lload X72.here hx rfl (hb hby at_26) rfl k) ?_
  refine own_go (T' := T72) (g' := (mkF m 30 #[.val (.long x0), .second, .val (.long x1), .second, .val (.long x2), .second, .val (.long x3), .second, .val (.long x4), .second, .val (.long x5), .second, rv b56, .unset] [(.long x5), (.long x4), (.int (own_cont x4 x5 x0 x1 x2 x3))])) (fun t k => XS.lload X72.here hx rfl (hb hby at_28) rfl k) ?_
  refine own_go (T' := T72) (g' := (mkF m 31 #[.val (.long x0), .second, .val (.long x1), .second, .val (.long x2), .second, .val (.long x3), .second, .val (.long x4), .second, .val (.long x5), .second, rv b56, .unset] [(.long x0), (.long x5), (.long x4), (.int (own_cont x4 x5 x0 x1 x2 x3))])) (fun t k => XS.lloadN X72.here hx rfl (hb hby at_30) rfl k) ?_
  refine own_go (T' := T72) (g' := (mkF m 32 #[.val (.long x0), .second, .val (.long x1), .second, .val (.long x2), .second, .val (.long x3), .second, .val (.long x4), .second, .val (.long x5), .second, rv b56, .unset] [(.long x1), (.long x0), (.long x5), (.long x4), (.int (own_cont x4 x5 x0 x1 x2 x3))])) (fun t k => XS.lloadN X72.here hx rfl (hb hby at_31) rfl k) ?_
  refine own_go (T' := T72) (g' := (mkF m 34 #[.val (.long x0), .second, .val (.long x1), .second, .val (.long x2), .second, .val (.long x3), .second, .val (.long x4), .second, .val (.long x5), .second, rv b56, .unset] [(.long x2), (.long x1), (.long x0), (.long x5), (.long x4), (.int (own_cont x4 x5 x0 x1 x2 x3))])) (fun t k => XS.lload X72.here hx rfl (hb hby at_32) rfl k) ?_
  refine own_go (T' := T72) (g' := (mkF m 36 #[.val (.long x0), .second, .val (.long x1), .second, .val (.long x2), .second, .val (.long x3), .second, .val (.long x4), .second, .val (.long x5), .second, rv b56, .unset] [(.long x3), (.long x2), (.long x1), (.long x0), (.long x5), (.long x4), (.int (own_cont x4 x5 x0 x1 x2 x3))])) (fun t k => XS.lload X72.here hx rfl (hb hby at_34) rfl k) ?_
  obtain ⟨_, _, ⟨T73, L73, k73, n73⟩, -, X73, ⟨Lc73, hQ73, l73, y73, z73⟩, st73⟩ := Jvm.LawKit.callS X72 hx (y := (⟨"com/example/piastrella/piastrella/tiles/TileMatrixLimitsContainsPinLaw", "ref", "(JJJJJJ)Z"⟩ : MethodName)) hown (mvT hZ (hw _ (List.mem_of_getElem? (i := 37) rfl))) (mvT hZ (hw _ (List.mem_of_getElem? (i := 38) rfl))) (mvT hZ (hw _ (List.mem_of_getElem? (i := 39) rfl))) (mvT hZ (hw _ (List.mem_of_getElem? (i := 40) rfl))) (by decide) (backOf (W := 1) (own_rref l Z a0 hw [] x4 x5 x0 x1 x2 x3 T64.heap n0 hz64) hZ (hw _ (List.mem_of_getElem? (i := 40) rfl)) (hw _ (List.mem_of_getElem? (i := 39) rfl)) (by decide) (by decide)) (g := (mkF m 36 #[.val (.long x0), .second, .val (.long x1), .second, .val (.long x2), .second, .val (.long x3), .second, .val (.long x4), .second, .val (.long x5), .second, rv b56, .unset] [(.long x3), (.long x2), (.long x1), (.long x0), (.long x5), (.long x4), (.int (own_cont x4 x5 x0 x1 x2 x3))])) rfl (by rw [hml]; rfl) (argsL := [(.long x4), (.long x5), (.long x0), (.long x1), (.long x2), (.long x3)]) (rest := [(.int (own_cont x4 x5 x0 x1 x2 x3))]) (lenOf own_pd5 rfl) rfl (by show 2 * 0 + _ ≤ _; exact Nat.le_of_eq rfl) (hb hby at_36) (fun _ _ => ⟨rfl, E72q, (by decide : 3 + 0 ≤ _), (by decide : 13 + 0 ≤ _)⟩)
  dsimp only [Pt.U, Pt.locs, Pt.cells, Pt.slots] at X73 l73 y73 z73 st73 hQ73
  subst l73 y73 z73
  obtain ⟨rfl, rfl, e73⟩ := hQ73
  have E73q : T73.heap = T64.heap := e73
  have N73 := Fr.app N72 (Fr.nil n0)
  refine own_go (T' := T73) (g' := (mkF m 39 #[.val (.long x0), .second, .val (.long x1), .second, .val (.long x2), .second, .val (.long x3), .second, .val (.long x4), .second, .val (.long x5), .second, rv b56, .unset] [(.int (own_ref x4 x5 x0 x1 x2 x3)), (.int (own_cont x4 x5 x0 x1 x2 x3))])) (st73) ?_
  refine own_go (T' := T73) (g' := (mkF m 42 #[.val (.long x0), .second, .val (.long x1), .second, .val (.long x2), .second, .val (.long x3), .second, .val (.long x4), .second, .val (.long x5), .second, rv b56, .unset] [])) (fun t k => XS.icmpNo X73.here hx rfl (hb hby at_39) rfl (teq (own_key _ _ _ _ _ _ : ((own_cont x4 x5 x0 x1 x2 x3) = (own_ref x4 x5 x0 x1 x2 x3)))).2 k) ?_
  refine own_go (T' := T73) (g' := (mkF m 43 #[.val (.long x0), .second, .val (.long x1), .second, .val (.long x2), .second, .val (.long x3), .second, .val (.long x4), .second, .val (.long x5), .second, rv b56, .unset] [(.int (1 : Int32))])) (fun t k => XS.iconst X73.here hx rfl (hb hby at_42) k) ?_
  refine own_go (T' := T73) (g' := (mkF m 47 #[.val (.long x0), .second, .val (.long x1), .second, .val (.long x2), .second, .val (.long x3), .second, .val (.long x4), .second, .val (.long x5), .second, rv b56, .unset] [(.int (1 : Int32))])) (fun t k => XS.goto X73.here hx rfl (pc0 := 43) (pc' := 47) rfl (hb hby at_43) (by decide) (by decide) k) ?_
  refine own_go (T' := T73) (g' := (mkF m 49 #[.val (.long x0), .second, .val (.long x1), .second, .val (.long x2), .second, .val (.long x3), .second, .val (.long x4), .second, .val (.long x5), .second, rv b56, iv (1 : Int32)] [])) (fun t k => XS.istore X73.here hx rfl (hb hby at_47) rfl (l' := #[.val (.long x0), .second, .val (.long x1), .second, .val (.long x2), .second, .val (.long x3), .second, .val (.long x4), .second, .val (.long x5), .second, rv b56, iv (1 : Int32)]) rfl k) ?_
  refine own_go (T' := T73) (g' := (mkF m 51 #[.val (.long x0), .second, .val (.long x1), .second, .val (.long x2), .second, .val (.long x3), .second, .val (.long x4), .second, .val (.long x5), .second, rv b56, iv (1 : Int32)] [(.int (1 : Int32))])) (fun t k => XS.iload X73.here hx rfl (hb hby at_49) rfl k) ?_
  refine own_go (T' := T73) (g' := (mkF m 54 #[.val (.long x0), .second, .val (.long x1), .second, .val (.long x2), .second, .val (.long x3), .second, .val (.long x4), .second, .val (.long x5), .second, rv b56, iv (1 : Int32)] [])) (fun t k => XS.ifNo X73.here hx rfl (hb hby at_51) rfl ((if0 _ _).trans (feq (by decide : ¬ ((1 : Int32) = (0 : Int32)))).1) k) ?_
  refine own_go (T' := T73) (g' := (mkF m 56 #[.val (.long x0), .second, .val (.long x1), .second, .val (.long x2), .second, .val (.long x3), .second, .val (.long x4), .second, .val (.long x5), .second, rv b56, iv (1 : Int32)] [(.ref b56)])) (fun t k => XS.aload X73.here hx rfl (hb hby at_54) rfl rfl k) ?_
  refine own_go (T' := T73) (g' := (mkF m 57 #[.val (.long x0), .second, .val (.long x1), .second, .val (.long x2), .second, .val (.long x3), .second, .val (.long x4), .second, .val (.long x5), .second, rv b56, iv (1 : Int32)] [(.long x0), (.ref b56)])) (fun t k => XS.lloadN X73.here hx rfl (hb hby at_56) rfl k) ?_
  refine own_go (T' := T73) (g' := (mkF m 59 #[.val (.long x0), .second, .val (.long x1), .second, .val (.long x2), .second, .val (.long x3), .second, .val (.long x4), .second, .val (.long x5), .second, rv b56, iv (1 : Int32)] [(.long x2), (.long x0), (.ref b56)])) (fun t k => XS.lload X73.here hx rfl (hb hby at_57) rfl k) ?_
  obtain ⟨cq74, kq74, q74a, q74b, q74c⟩ := isOf hZ E73q e_64
  obtain ⟨_, _, ⟨T74, L74, k74, n74⟩, -, X74, ⟨Lc74, hQ74, l74, y74, z74⟩, st74⟩ := X73.virtualBack hx (y := (⟨"com/example/piastrella/piastrella/tiles/TileMatrixLimits", "contains", "(JJ)Z"⟩ : MethodName)) (z := (⟨"com/example/piastrella/piastrella/tiles/TileMatrixLimits", "contains", "(JJ)Z"⟩ : MethodName)) hown (mvT hZ (hw _ (List.mem_of_getElem? (i := 32) rfl))) (mvT hZ (hw _ (List.mem_of_getElem? (i := 33) rfl))) (notFace_of_selects (args := #[]) (mvT hZ (hw _ (List.mem_of_getElem? (i := 35) rfl)))) (mvT hZ (hw _ (List.mem_of_getElem? (i := 35) rfl))) (mvT hZ (hw _ (List.mem_of_getElem? (i := 34) rfl))) (by decide) (backOf (W := 0) (own_rcont l Z a0 hw [] b56 x0 x2 x0 x1 x2 x3 T64.heap n0 hz64 f0_64 f1_64 f2_64 f3_64) hZ (hw _ (List.mem_of_getElem? (i := 36) rfl)) (hw _ (List.mem_of_getElem? (i := 2) rfl)) (by decide) (by decide)) q74a q74c (g := (mkF m 59 #[.val (.long x0), .second, .val (.long x1), .second, .val (.long x2), .second, .val (.long x3), .second, .val (.long x4), .second, .val (.long x5), .second, rv b56, iv (1 : Int32)] [(.long x2), (.long x0), (.ref b56)])) rfl (by rw [hml]; rfl) (Steps.refl _) (argsL := [(.long x0), (.long x2)]) (rest := []) (lenOf own_pd4 rfl) rfl (by show 2 * 0 + _ ≤ _; exact Nat.le_of_eq rfl) (hb hby at_59) (fun _ _ => ⟨rfl, E73q, (by decide : 3 + 0 ≤ _), (by decide : 13 + 0 ≤ _)⟩)
  dsimp only [Pt.U, Pt.locs, Pt.cells, Pt.slots] at X74 l74 y74 z74 st74 hQ74
  subst l74 y74 z74
  obtain ⟨rfl, rfl, e74⟩ := hQ74
  have E74q : T74.heap = T64.heap := e74
  have N74 := Fr.app N73 (Fr.nil n0)
  refine own_go (T' := T74) (g' := (mkF m 62 #[.val (.long x0), .second, .val (.long x1), .second, .val (.long x2), .second, .val (.long x3), .second, .val (.long x4), .second, .val (.long x5), .second, rv b56, iv (1 : Int32)] [(.int (own_cont x0 x2 x0 x1 x2 x3))])) (fun t k => st74.trans k) ?_
  refine own_go (T' := T74) (g' := (mkF m 63 #[.val (.long x0), .second, .val (.long x1), .second, .val (.long x2), .second, .val (.long x3), .second, .val (.long x4), .second, .val (.long x5), .second, rv b56, iv (1 : Int32)] [(.long x0), (.int (own_cont x0 x2 x0 x1 x2 x3))])) (fun t k => XS.lloadN X74.here hx rfl (hb hby at_62) rfl k) ?_
  refine own_go (T' := T74) (g' := (mkF m 65 #[.val (.long x0), .second, .val (.long x1), .second, .val (.long x2), .second, .val (.long x3), .second, .val (.long x4), .second, .val (.long x5), .second, rv b56, iv (1 : Int32)] [(.long x2), (.long x0), (.int (own_cont x0 x2 x0 x1 x2 x3))])) (fun t k => XS.lload X74.here hx rfl (hb hby at_63) rfl k) ?_
  refine own_go (T' := T74) (g' := (mkF m 66 #[.val (.long x0), .second, .val (.long x1), .second, .val (.long x2), .second, .val (.long x3), .second, .val (.long x4), .second, .val (.long x5), .second, rv b56, iv (1 : Int32)] [(.long x0), (.long x2), (.long x0), (.int (own_cont x0 x2 x0 x1 x2 x3))])) (fun t k => XS.lloadN X74.here hx rfl (hb hby at_65) rfl k) ?_
  refine own_go (T' := T74) (g' := (mkF m 67 #[.val (.long x0), .second, .val (.long x1), .second, .val (.long x2), .second, .val (.long x3), .second, .val (.long x4), .second, .val (.long x5), .second, rv b56, iv (1 : Int32)] [(.long x1), (.long x0), (.long x2), (.long x0), (.int (own_cont x0 x2 x0 x1 x2 x3))])) (fun t k => XS.lloadN X74.here hx rfl (hb hby at_66) rfl k) ?_
  refine own_go (T' := T74) (g' := (mkF m 69 #[.val (.long x0), .second, .val (.long x1), .second, .val (.long x2), .second, .val (.long x3), .second, .val (.long x4), .second, .val (.long x5), .second, rv b56, iv (1 : Int32)] [(.long x2), (.long x1), (.long x0), (.long x2), (.long x0), (.int (own_cont x0 x2 x0 x1 x2 x3))])) (fun t k => XS.lload X74.here hx rfl (hb hby at_67) rfl k) ?_
  refine own_go (T' := T74) (g' := (mkF m 71 #[.val (.long x0), .second, .val (.long x1), .second, .val (.long x2), .second, .val (.long x3), .second, .val (.long x4), .second, .val (.long x5), .second, rv b56, iv (1 : Int32)] [(.long x3), (.long x2), (.long x1), (.long x0), (.long x2), (.long x0), (.int (own_cont x0 x2 x0 x1 x2 x3))])) (fun t k => XS.lload X74.here hx rfl (hb hby at_69) rfl k) ?_
  obtain ⟨_, _, ⟨T75, L75, k75, n75⟩, -, X75, ⟨Lc75, hQ75, l75, y75, z75⟩, st75⟩ := Jvm.LawKit.callS X74 hx (y := (⟨"com/example/piastrella/piastrella/tiles/TileMatrixLimitsContainsPinLaw", "ref", "(JJJJJJ)Z"⟩ : MethodName)) hown (mvT hZ (hw _ (List.mem_of_getElem? (i := 37) rfl))) (mvT hZ (hw _ (List.mem_of_getElem? (i := 38) rfl))) (mvT hZ (hw _ (List.mem_of_getElem? (i := 39) rfl))) (mvT hZ (hw _ (List.mem_of_getElem? (i := 40) rfl))) (by decide) (backOf (W := 1) (own_rref l Z a0 hw [] x0 x2 x0 x1 x2 x3 T64.heap n0 hz64) hZ (hw _ (List.mem_of_getElem? (i := 40) rfl)) (hw _ (List.mem_of_getElem? (i := 39) rfl)) (by decide) (by decide)) (g := (mkF m 71 #[.val (.long x0), .second, .val (.long x1), .second, .val (.long x2), .second, .val (.long x3), .second, .val (.long x4), .second, .val (.long x5), .second, rv b56, iv (1 : Int32)] [(.long x3), (.long x2), (.long x1), (.long x0), (.long x2), (.long x0), (.int (own_cont x0 x2 x0 x1 x2 x3))])) rfl (by rw [hml]; rfl) (argsL := [(.long x0), (.long x2), (.long x0), (.long x1), (.long x2), (.long x3)]) (rest := [(.int (own_cont x0 x2 x0 x1 x2 x3))]) (lenOf own_pd5 rfl) rfl (by show 2 * 0 + _ ≤ _; exact Nat.le_of_eq rfl) (hb hby at_71) (fun _ _ => ⟨rfl, E74q, (by decide : 3 + 0 ≤ _), (by decide : 13 + 0 ≤ _)⟩)
  dsimp only [Pt.U, Pt.locs, Pt.cells, Pt.slots] at X75 l75 y75 z75 st75 hQ75
  subst l75 y75 z75
  obtain ⟨rfl, rfl, e75⟩ := hQ75
  have E75q : T75.heap = T64.heap := e75
  have N75 := Fr.app N74 (Fr.nil n0)
  refine own_go (T' := T75) (g' := (mkF m 74 #[.val (.long x0), .second, .val (.long x1), .second, .val (.long x2), .second, .val (.long x3), .second, .val (.long x4), .second, .val (.long x5), .second, rv b56, iv (1 : Int32)] [(.int (own_ref x0 x2 x0 x1 x2 x3)), (.int (own_cont x0 x2 x0 x1 x2 x3))])) (st75) ?_
  refine own_go (T' := T75) (g' := (mkF m 77 #[.val (.long x0), .second, .val (.long x1), .second, .val (.long x2), .second, .val (.long x3), .second, .val (.long x4), .second, .val (.long x5), .second, rv b56, iv (1 : Int32)] [])) (fun t k => XS.icmpNo X75.here hx rfl (hb hby at_74) rfl (teq (own_key _ _ _ _ _ _ : ((own_cont x0 x2 x0 x1 x2 x3) = (own_ref x0 x2 x0 x1 x2 x3)))).2 k) ?_
  refine own_go (T' := T75) (g' := (mkF m 78 #[.val (.long x0), .second, .val (.long x1), .second, .val (.long x2), .second, .val (.long x3), .second, .val (.long x4), .second, .val (.long x5), .second, rv b56, iv (1 : Int32)] [(.int (1 : Int32))])) (fun t k => XS.iconst X75.here hx rfl (hb hby at_77) k) ?_
  refine own_go (T' := T75) (g' := (mkF m 82 #[.val (.long x0), .second, .val (.long x1), .second, .val (.long x2), .second, .val (.long x3), .second, .val (.long x4), .second, .val (.long x5), .second, rv b56, iv (1 : Int32)] [(.int (1 : Int32))])) (fun t k => XS.goto X75.here hx rfl (pc0 := 78) (pc' := 82) rfl (hb hby at_78) (by decide) (by decide) k) ?_
  refine own_go (T' := T75) (g' := (mkF m 84 #[.val (.long x0), .second, .val (.long x1), .second, .val (.long x2), .second, .val (.long x3), .second, .val (.long x4), .second, .val (.long x5), .second, rv b56, iv (1 : Int32)] [])) (fun t k => XS.istore X75.here hx rfl (hb hby at_82) rfl (l' := #[.val (.long x0), .second, .val (.long x1), .second, .val (.long x2), .second, .val (.long x3), .second, .val (.long x4), .second, .val (.long x5), .second, rv b56, iv (1 : Int32)]) rfl k) ?_
  refine own_go (T' := T75) (g' := (mkF m 86 #[.val (.long x0), .second, .val (.long x1), .second, .val (.long x2), .second, .val (.long x3), .second, .val (.long x4), .second, .val (.long x5), .second, rv b56, iv (1 : Int32)] [(.int (1 : Int32))])) (fun t k => XS.iload X75.here hx rfl (hb hby at_84) rfl k) ?_
  refine own_go (T' := T75) (g' := (mkF m 89 #[.val (.long x0), .second, .val (.long x1), .second, .val (.long x2), .second, .val (.long x3), .second, .val (.long x4), .second, .val (.long x5), .second, rv b56, iv (1 : Int32)] [])) (fun t k => XS.ifNo X75.here hx rfl (hb hby at_86) rfl ((if0 _ _).trans (feq (by decide : ¬ ((1 : Int32) = (0 : Int32)))).1) k) ?_
  refine own_go (T' := T75) (g' := (mkF m 91 #[.val (.long x0), .second, .val (.long x1), .second, .val (.long x2), .second, .val (.long x3), .second, .val (.long x4), .second, .val (.long x5), .second, rv b56, iv (1 : Int32)] [(.ref b56)])) (fun t k => XS.aload X75.here hx rfl (hb hby at_89) rfl rfl k) ?_
  refine own_go (T' := T75) (g' := (mkF m 92 #[.val (.long x0), .second, .val (.long x1), .second, .val (.long x2), .second, .val (.long x3), .second, .val (.long x4), .second, .val (.long x5), .second, rv b56, iv (1 : Int32)] [(.long x1), (.ref b56)])) (fun t k => XS.lloadN X75.here hx rfl (hb hby at_91) rfl k) ?_
  refine own_go (T' := T75) (g' := (mkF m 94 #[.val (.long x0), .second, .val (.long x1), .second, .val (.long x2), .second, .val (.long x3), .second, .val (.long x4), .second, .val (.long x5), .second, rv b56, iv (1 : Int32)] [(.long x3), (.long x1), (.ref b56)])) (fun t k => XS.lload X75.here hx rfl (hb hby at_92) rfl k) ?_
  obtain ⟨cq76, kq76, q76a, q76b, q76c⟩ := isOf hZ E75q e_64
  obtain ⟨_, _, ⟨T76, L76, k76, n76⟩, -, X76, ⟨Lc76, hQ76, l76, y76, z76⟩, st76⟩ := X75.virtualBack hx (y := (⟨"com/example/piastrella/piastrella/tiles/TileMatrixLimits", "contains", "(JJ)Z"⟩ : MethodName)) (z := (⟨"com/example/piastrella/piastrella/tiles/TileMatrixLimits", "contains", "(JJ)Z"⟩ : MethodName)) hown (mvT hZ (hw _ (List.mem_of_getElem? (i := 32) rfl))) (mvT hZ (hw _ (List.mem_of_getElem? (i := 33) rfl))) (notFace_of_selects (args := #[]) (mvT hZ (hw _ (List.mem_of_getElem? (i := 35) rfl)))) (mvT hZ (hw _ (List.mem_of_getElem? (i := 35) rfl))) (mvT hZ (hw _ (List.mem_of_getElem? (i := 34) rfl))) (by decide) (backOf (W := 0) (own_rcont l Z a0 hw [] b56 x1 x3 x0 x1 x2 x3 T64.heap n0 hz64 f0_64 f1_64 f2_64 f3_64) hZ (hw _ (List.mem_of_getElem? (i := 36) rfl)) (hw _ (List.mem_of_getElem? (i := 2) rfl)) (by decide) (by decide)) q76a q76c (g := (mkF m 94 #[.val (.long x0), .second, .val (.long x1), .second, .val (.long x2), .second, .val (.long x3), .second, .val (.long x4), .second, .val (.long x5), .second, rv b56, iv (1 : Int32)] [(.long x3), (.long x1), (.ref b56)])) rfl (by rw [hml]; rfl) (Steps.refl _) (argsL := [(.long x1), (.long x3)]) (rest := []) (lenOf own_pd4 rfl) rfl (by show 2 * 0 + _ ≤ _; exact Nat.le_of_eq rfl) (hb hby at_94) (fun _ _ => ⟨rfl, E75q, (by decide : 3 + 0 ≤ _), (by decide : 13 + 0 ≤ _)⟩)
  dsimp only [Pt.U, Pt.locs, Pt.cells, Pt.slots] at X76 l76 y76 z76 st76 hQ76
  subst l76 y76 z76
  obtain ⟨rfl, rfl, e76⟩ := hQ76
  have E76q : T76.heap = T64.heap := e76
  have N76 := Fr.app N75 (Fr.nil n0)
  refine own_go (T' := T76) (g' := (mkF m 97 #[.val (.long x0), .second, .val (.long x1), .second, .val (.long x2), .second, .val (.long x3), .second, .val (.long x4), .second, .val (.long x5), .second, rv b56, iv (1 : Int32)] [(.int (own_cont x1 x3 x0 x1 x2 x3))])) (fun t k => st76.trans k) ?_
  refine own_go (T' := T76) (g' := (mkF m 98 #[.val (.long x0), .second, .val (.long x1), .second, .val (.long x2), .second, .val (.long x3), .second, .val (.long x4), .second, .val (.long x5), .second, rv b56, iv (1 : Int32)] [(.long x1), (.int (own_cont x1 x3 x0 x1 x2 x3))])) (fun t k => XS.lloadN X76.here hx rfl (hb hby at_97) rfl k) ?_
  refine own_go (T' := T76) (g' := (mkF m 100 #[.val (.long x0), .second, .val (.long x1), .second, .val (.long x2), .second, .val (.long x3), .second, .val (.long x4), .second, .val (.long x5), .second, rv b56, iv (1 : Int32)] [(.long x3), (.long x1), (.int (own_cont x1 x3 x0 x1 x2 x3))])) (fun t k => XS.lload X76.here hx rfl (hb hby at_98) rfl k) ?_
  refine own_go (T' := T76) (g' := (mkF m 101 #[.val (.long x0), .second, .val (.long x1), .second, .val (.long x2), .second, .val (.long x3), .second, .val (.long x4), .second, .val (.long x5), .second, rv b56, iv (1 : Int32)] [(.long x0), (.long x3), (.long x1), (.int (own_cont x1 x3 x0 x1 x2 x3))])) (fun t k => XS.lloadN X76.here hx rfl (hb hby at_100) rfl k) ?_
  refine own_go (T' := T76) (g' := (mkF m 102 #[.val (.long x0), .second, .val (.long x1), .second, .val (.long x2), .second, .val (.long x3), .second, .val (.long x4), .second, .val (.long x5), .second, rv b56, iv (1 : Int32)] [(.long x1), (.long x0), (.long x3), (.long x1), (.int (own_cont x1 x3 x0 x1 x2 x3))])) (fun t k => XS.lloadN X76.here hx rfl (hb hby at_101) rfl k) ?_
  refine own_go (T' := T76) (g' := (mkF m 104 #[.val (.long x0), .second, .val (.long x1), .second, .val (.long x2), .second, .val (.long x3), .second, .val (.long x4), .second, .val (.long x5), .second, rv b56, iv (1 : Int32)] [(.long x2), (.long x1), (.long x0), (.long x3), (.long x1), (.int (own_cont x1 x3 x0 x1 x2 x3))])) (fun t k => XS.lload X76.here hx rfl (hb hby at_102) rfl k) ?_
  refine own_go (T' := T76) (g' := (mkF m 106 #[.val (.long x0), .second, .val (.long x1), .second, .val (.long x2), .second, .val (.long x3), .second, .val (.long x4), .second, .val (.long x5), .second, rv b56, iv (1 : Int32)] [(.long x3), (.long x2), (.long x1), (.long x0), (.long x3), (.long x1), (.int (own_cont x1 x3 x0 x1 x2 x3))])) (fun t k => XS.lload X76.here hx rfl (hb hby at_104) rfl k) ?_
  obtain ⟨_, _, ⟨T77, L77, k77, n77⟩, -, X77, ⟨Lc77, hQ77, l77, y77, z77⟩, st77⟩ := Jvm.LawKit.callS X76 hx (y := (⟨"com/example/piastrella/piastrella/tiles/TileMatrixLimitsContainsPinLaw", "ref", "(JJJJJJ)Z"⟩ : MethodName)) hown (mvT hZ (hw _ (List.mem_of_getElem? (i := 37) rfl))) (mvT hZ (hw _ (List.mem_of_getElem? (i := 38) rfl))) (mvT hZ (hw _ (List.mem_of_getElem? (i := 39) rfl))) (mvT hZ (hw _ (List.mem_of_getElem? (i := 40) rfl))) (by decide) (backOf (W := 1) (own_rref l Z a0 hw [] x1 x3 x0 x1 x2 x3 T64.heap n0 hz64) hZ (hw _ (List.mem_of_getElem? (i := 40) rfl)) (hw _ (List.mem_of_getElem? (i := 39) rfl)) (by decide) (by decide)) (g := (mkF m 106 #[.val (.long x0), .second, .val (.long x1), .second, .val (.long x2), .second, .val (.long x3), .second, .val (.long x4), .second, .val (.long x5), .second, rv b56, iv (1 : Int32)] [(.long x3), (.long x2), (.long x1), (.long x0), (.long x3), (.long x1), (.int (own_cont x1 x3 x0 x1 x2 x3))])) rfl (by rw [hml]; rfl) (argsL := [(.long x1), (.long x3), (.long x0), (.long x1), (.long x2), (.long x3)]) (rest := [(.int (own_cont x1 x3 x0 x1 x2 x3))]) (lenOf own_pd5 rfl) rfl (by show 2 * 0 + _ ≤ _; exact Nat.le_of_eq rfl) (hb hby at_106) (fun _ _ => ⟨rfl, E76q, (by decide : 3 + 0 ≤ _), (by decide : 13 + 0 ≤ _)⟩)
  dsimp only [Pt.U, Pt.locs, Pt.cells, Pt.slots] at X77 l77 y77 z77 st77 hQ77
  subst l77 y77 z77
  obtain ⟨rfl, rfl, e77⟩ := hQ77
  have E77q : T77.heap = T64.heap := e77
  have N77 := Fr.app N76 (Fr.nil n0)
  refine own_go (T' := T77) (g' := (mkF m 109 #[.val (.long x0), .second, .val (.long x1), .second, .val (.long x2), .second, .val (.long x3), .second, .val (.long x4), .second, .val (.long x5), .second, rv b56, iv (1 : Int32)] [(.int (own_ref x1 x3 x0 x1 x2 x3)), (.int (own_cont x1 x3 x0 x1 x2 x3))])) (st77) ?_
  refine own_go (T' := T77) (g' := (mkF m 112 #[.val (.long x0), .second, .val (.long x1), .second, .val (.long x2), .second, .val (.long x3), .second, .val (.long x4), .second, .val (.long x5), .second, rv b56, iv (1 : Int32)] [])) (fun t k => XS.icmpNo X77.here hx rfl (hb hby at_109) rfl (teq (own_key _ _ _ _ _ _ : ((own_cont x1 x3 x0 x1 x2 x3) = (own_ref x1 x3 x0 x1 x2 x3)))).2 k) ?_
  refine own_go (T' := T77) (g' := (mkF m 113 #[.val (.long x0), .second, .val (.long x1), .second, .val (.long x2), .second, .val (.long x3), .second, .val (.long x4), .second, .val (.long x5), .second, rv b56, iv (1 : Int32)] [(.int (1 : Int32))])) (fun t k => XS.iconst X77.here hx rfl (hb hby at_112) k) ?_
  refine own_go (T' := T77) (g' := (mkF m 117 #[.val (.long x0), .second, .val (.long x1), .second, .val (.long x2), .second, .val (.long x3), .second, .val (.long x4), .second, .val (.long x5), .second, rv b56, iv (1 : Int32)] [(.int (1 : Int32))])) (fun t k => XS.goto X77.here hx rfl (pc0 := 113) (pc' := 117) rfl (hb hby at_113) (by decide) (by decide) k) ?_
  refine own_go (T' := T77) (g' := (mkF m 119 #[.val (.long x0), .second, .val (.long x1), .second, .val (.long x2), .second, .val (.long x3), .second, .val (.long x4), .second, .val (.long x5), .second, rv b56, iv (1 : Int32)] [])) (fun t k => XS.istore X77.here hx rfl (hb hby at_117) rfl (l' := #[.val (.long x0), .second, .val (.long x1), .second, .val (.long x2), .second, .val (.long x3), .second, .val (.long x4), .second, .val (.long x5), .second, rv b56, iv (1 : Int32)]) rfl k) ?_
  refine own_go (T' := T77) (g' := (mkF m 121 #[.val (.long x0), .second, .val (.long x1), .second, .val (.long x2), .second, .val (.long x3), .second, .val (.long x4), .second, .val (.long x5), .second, rv b56, iv (1 : Int32)] [(.int (1 : Int32))])) (fun t k => XS.iload X77.here hx rfl (hb hby at_119) rfl k) ?_
  refine own_go (T' := T77) (g' := (mkF m 124 #[.val (.long x0), .second, .val (.long x1), .second, .val (.long x2), .second, .val (.long x3), .second, .val (.long x4), .second, .val (.long x5), .second, rv b56, iv (1 : Int32)] [])) (fun t k => XS.ifNo X77.here hx rfl (hb hby at_121) rfl ((if0 _ _).trans (feq (by decide : ¬ ((1 : Int32) = (0 : Int32)))).1) k) ?_
  refine own_go (T' := T77) (g' := (mkF m 126 #[.val (.long x0), .second, .val (.long x1), .second, .val (.long x2), .second, .val (.long x3), .second, .val (.long x4), .second, .val (.long x5), .second, rv b56, iv (1 : Int32)] [(.ref b56)])) (fun t k => XS.aload X77.here hx rfl (hb hby at_124) rfl rfl k) ?_
  refine own_go (T' := T77) (g' := (mkF m 127 #[.val (.long x0), .second, .val (.long x1), .second, .val (.long x2), .second, .val (.long x3), .second, .val (.long x4), .second, .val (.long x5), .second, rv b56, iv (1 : Int32)] [(.long x0), (.ref b56)])) (fun t k => XS.lloadN X77.here hx rfl (hb hby at_126) rfl k) ?_
  refine own_go (T' := T77) (g' := (mkF m 128 #[.val (.long x0), .second, .val (.long x1), .second, .val (.long x2), .second, .val (.long x3), .second, .val (.long x4), .second, .val (.long x5), .second, rv b56, iv (1 : Int32)] [(.long (1 : Int64)), (.long x0), (.ref b56)])) (fun t k => XS.lconst X77.here hx rfl (hb hby at_127) k) ?_
  refine own_go (T' := T77) (g' := (mkF m 129 #[.val (.long x0), .second, .val (.long x1), .second, .val (.long x2), .second, .val (.long x3), .second, .val (.long x4), .second, .val (.long x5), .second, rv b56, iv (1 : Int32)] [(.long (x0 - (1 : Int64))), (.ref b56)])) (fun t k => XS.lsub X77.here hx rfl (hb hby at_128) rfl k) ?_
  refine own_go (T' := T77) (g' := (mkF m 131 #[.val (.long x0), .second, .val (.long x1), .second, .val (.long x2), .second, .val (.long x3), .second, .val (.long x4), .second, .val (.long x5), .second, rv b56, iv (1 : Int32)] [(.long x5), (.long (x0 - (1 : Int64))), (.ref b56)])) (fun t k => XS.lload X77.here hx rfl (hb hby at_129) rfl k) ?_
  obtain ⟨cq78, kq78, q78a, q78b, q78c⟩ := isOf hZ E77q e_64
  obtain ⟨_, _, ⟨T78, L78, k78, n78⟩, -, X78, ⟨Lc78, hQ78, l78, y78, z78⟩, st78⟩ := X77.virtualBack hx (y := (⟨"com/example/piastrella/piastrella/tiles/TileMatrixLimits", "contains", "(JJ)Z"⟩ : MethodName)) (z := (⟨"com/example/piastrella/piastrella/tiles/TileMatrixLimits", "contains", "(JJ)Z"⟩ : MethodName)) hown (mvT hZ (hw _ (List.mem_of_getElem? (i := 32) rfl))) (mvT hZ (hw _ (List.mem_of_getElem? (i := 33) rfl))) (notFace_of_selects (args := #[]) (mvT hZ (hw _ (List.mem_of_getElem? (i := 35) rfl)))) (mvT hZ (hw _ (List.mem_of_getElem? (i := 35) rfl))) (mvT hZ (hw _ (List.mem_of_getElem? (i := 34) rfl))) (by decide) (backOf (W := 0) (own_rcont l Z a0 hw [] b56 (x0 - (1 : Int64)) x5 x0 x1 x2 x3 T64.heap n0 hz64 f0_64 f1_64 f2_64 f3_64) hZ (hw _ (List.mem_of_getElem? (i := 36) rfl)) (hw _ (List.mem_of_getElem? (i := 2) rfl)) (by decide) (by decide)) q78a q78c (g := (mkF m 131 #[.val (.long x0), .second, .val (.long x1), .second, .val (.long x2), .second, .val (.long x3), .second, .val (.long x4), .second, .val (.long x5), .second, rv b56, iv (1 : Int32)] [(.long x5), (.long (x0 - (1 : Int64))), (.ref b56)])) rfl (by rw [hml]; rfl) (Steps.refl _) (argsL := [(.long (x0 - (1 : Int64))), (.long x5)]) (rest := []) (lenOf own_pd4 rfl) rfl (by show 2 * 0 + _ ≤ _; exact Nat.le_of_eq rfl) (hb hby at_131) (fun _ _ => ⟨rfl, E77q, (by decide : 3 + 0 ≤ _), (by decide : 13 + 0 ≤ _)⟩)
  dsimp only [Pt.U, Pt.locs, Pt.cells, Pt.slots] at X78 l78 y78 z78 st78 hQ78
  subst l78 y78 z78
  obtain ⟨rfl, rfl, e78⟩ := hQ78
  have E78q : T78.heap = T64.heap := e78
  have N78 := Fr.app N77 (Fr.nil n0)
  refine own_go (T' := T78) (g' := (mkF m 134 #[.val (.long x0), .second, .val (.long x1), .second, .val (.long x2), .second, .val (.long x3), .second, .val (.long x4), .second, .val (.long x5), .second, rv b56, iv (1 : Int32)] [(.int (own_cont (x0 - (1 : Int64)) x5 x0 x1 x2 x3))])) (fun t k => st78.trans k) ?_
  refine own_go (T' := T78) (g' := (mkF m 135 #[.val (.long x0), .second, .val (.long x1), .second, .val (.long x2), .second, .val (.long x3), .second, .val (.long x4), .second, .val (.long x5), .second, rv b56, iv (1 : Int32)] [(.long x0), (.int (own_cont (x0 - (1 : Int64)) x5 x0 x1 x2 x3))])) (fun t k => XS.lloadN X78.here hx rfl (hb hby at_134) rfl k) ?_
  refine own_go (T' := T78) (g' := (mkF m 136 #[.val (.long x0), .second, .val (.long x1), .second, .val (.long x2), .second, .val (.long x3), .second, .val (.long x4), .second, .val (.long x5), .second, rv b56, iv (1 : Int32)] [(.long (1 : Int64)), (.long x0), (.int (own_cont (x0 - (1 : Int64)) x5 x0 x1 x2 x3))])) (fun t k => XS.lconst X78.here hx rfl (hb hby at_135) k) ?_
  refine own_go (T' := T78) (g' := (mkF m 137 #[.val (.long x0), .second, .val (.long x1), .second, .val (.long x2), .second, .val (.long x3), .second, .val (.long x4), .second, .val (.long x5), .second, rv b56, iv (1 : Int32)] [(.long (x0 - (1 : Int64))), (.int (own_cont (x0 - (1 : Int64)) x5 x0 x1 x2 x3))])) (fun t k => XS.lsub X78.here hx rfl (hb hby at_136) rfl k) ?_
  refine own_go (T' := T78) (g' := (mkF m 139 #[.val (.long x0), .second, .val (.long x1), .second, .val (.long x2), .second, .val (.long x3), .second, .val (.long x4), .second, .val (.long x5), .second, rv b56, iv (1 : Int32)] [(.long x5), (.long (x0 - (1 : Int64))), (.int (own_cont (x0 - (1 : Int64)) x5 x0 x1 x2 x3))])) (fun t k => XS.lload X78.here hx rfl (hb hby at_137) rfl k) ?_
  refine own_go (T' := T78) (g' := (mkF m 140 #[.val (.long x0), .second, .val (.long x1), .second, .val (.long x2), .second, .val (.long x3), .second, .val (.long x4), .second, .val (.long x5), .second, rv b56, iv (1 : Int32)] [(.long x0), (.long x5), (.long (x0 - (1 : Int64))), (.int (own_cont (x0 - (1 : Int64)) x5 x0 x1 x2 x3))])) (fun t k => XS.lloadN X78.here hx rfl (hb hby at_139) rfl k) ?_
  refine own_go (T' := T78) (g' := (mkF m 141 #[.val (.long x0), .second, .val (.long x1), .second, .val (.long x2), .second, .val (.long x3), .second, .val (.long x4), .second, .val (.long x5), .second, rv b56, iv (1 : Int32)] [(.long x1), (.long x0), (.long x5), (.long (x0 - (1 : Int64))), (.int (own_cont (x0 - (1 : Int64)) x5 x0 x1 x2 x3))])) (fun t k => XS.lloadN X78.here hx rfl (hb hby at_140) rfl k) ?_
  refine own_go (T' := T78) (g' := (mkF m 143 #[.val (.long x0), .second, .val (.long x1), .second, .val (.long x2), .second, .val (.long x3), .second, .val (.long x4), .second, .val (.long x5), .second, rv b56, iv (1 : Int32)] [(.long x2), (.long x1), (.long x0), (.long x5), (.long (x0 - (1 : Int64))), (.int (own_cont (x0 - (1 : Int64)) x5 x0 x1 x2 x3))])) (fun t k => XS.lload X78.here hx rfl (hb hby at_141) rfl k) ?_
  refine own_go (T' := T78) (g' := (mkF m 145 #[.val (.long x0), .second, .val (.long x1), .second, .val (.long x2), .second, .val (.long x3), .second, .val (.long x4), .second, .val (.long x5), .second, rv b56, iv (1 : Int32)] [(.long x3), (.long x2), (.long x1), (.long x0), (.long x5), (.long (x0 - (1 : Int64))), (.int (own_cont (x0 - (1 : Int64)) x5 x0 x1 x2 x3))])) (fun t k => XS.lload X78.here hx rfl (hb hby at_143) rfl k) ?_
  obtain ⟨_, _, ⟨T79, L79, k79, n79⟩, -, X79, ⟨Lc79, hQ79, l79, y79, z79⟩, st79⟩ := Jvm.LawKit.callS X78 hx (y := (⟨"com/example/piastrella/piastrella/tiles/TileMatrixLimitsContainsPinLaw", "ref", "(JJJJJJ)Z"⟩ : MethodName)) hown (mvT hZ (hw _ (List.mem_of_getElem? (i := 37) rfl))) (mvT hZ (hw _ (List.mem_of_getElem? (i := 38) rfl))) (mvT hZ (hw _ (List.mem_of_getElem? (i := 39) rfl))) (mvT hZ (hw _ (List.mem_of_getElem? (i := 40) rfl))) (by decide) (backOf (W := 1) (own_rref l Z a0 hw [] (x0 - (1 : Int64)) x5 x0 x1 x2 x3 T64.heap n0 hz64) hZ (hw _ (List.mem_of_getElem? (i := 40) rfl)) (hw _ (List.mem_of_getElem? (i := 39) rfl)) (by decide) (by decide)) (g := (mkF m 145 #[.val (.long x0), .second, .val (.long x1), .second, .val (.long x2), .second, .val (.long x3), .second, .val (.long x4), .second, .val (.long x5), .second, rv b56, iv (1 : Int32)] [(.long x3), (.long x2), (.long x1), (.long x0), (.long x5), (.long (x0 - (1 : Int64))), (.int (own_cont (x0 - (1 : Int64)) x5 x0 x1 x2 x3))])) rfl (by rw [hml]; rfl) (argsL := [(.long (x0 - (1 : Int64))), (.long x5), (.long x0), (.long x1), (.long x2), (.long x3)]) (rest := [(.int (own_cont (x0 - (1 : Int64)) x5 x0 x1 x2 x3))]) (lenOf own_pd5 rfl) rfl (by show 2 * 0 + _ ≤ _; exact Nat.le_of_eq rfl) (hb hby at_145) (fun _ _ => ⟨rfl, E78q, (by decide : 3 + 0 ≤ _), (by decide : 13 + 0 ≤ _)⟩)
  dsimp only [Pt.U, Pt.locs, Pt.cells, Pt.slots] at X79 l79 y79 z79 st79 hQ79
  subst l79 y79 z79
  obtain ⟨rfl, rfl, e79⟩ := hQ79
  have E79q : T79.heap = T64.heap := e79
  have N79 := Fr.app N78 (Fr.nil n0)
  refine own_go (T' := T79) (g' := (mkF m 148 #[.val (.long x0), .second, .val (.long x1), .second, .val (.long x2), .second, .val (.long x3), .second, .val (.long x4), .second, .val (.long x5), .second, rv b56, iv (1 : Int32)] [(.int (own_ref (x0 - (1 : Int64)) x5 x0 x1 x2 x3)), (.int (own_cont (x0 - (1 : Int64)) x5 x0 x1 x2 x3))])) (st79) ?_
  refine own_go (T' := T79) (g' := (mkF m 151 #[.val (.long x0), .second, .val (.long x1), .second, .val (.long x2), .second, .val (.long x3), .second, .val (.long x4), .second, .val (.long x5), .second, rv b56, iv (1 : Int32)] [])) (fun t k => XS.icmpNo X79.here hx rfl (hb hby at_148) rfl (teq (own_key _ _ _ _ _ _ : ((own_cont (x0 - (1 : Int64)) x5 x0 x1 x2 x3) = (own_ref (x0 - (1 : Int64)) x5 x0 x1 x2 x3)))).2 k) ?_
  refine own_go (T' := T79) (g' := (mkF m 152 #[.val (.long x0), .second, .val (.long x1), .second, .val (.long x2), .second, .val (.long x3), .second, .val (.long x4), .second, .val (.long x5), .second, rv b56, iv (1 : Int32)] [(.int (1 : Int32))])) (fun t k => XS.iconst X79.here hx rfl (hb hby at_151) k) ?_
  refine own_go (T' := T79) (g' := (mkF m 156 #[.val (.long x0), .second, .val (.long x1), .second, .val (.long x2), .second, .val (.long x3), .second, .val (.long x4), .second, .val (.long x5), .second, rv b56, iv (1 : Int32)] [(.int (1 : Int32))])) (fun t k => XS.goto X79.here hx rfl (pc0 := 152) (pc' := 156) rfl (hb hby at_152) (by decide) (by decide) k) ?_
  refine own_go (T' := T79) (g' := (mkF m 158 #[.val (.long x0), .second, .val (.long x1), .second, .val (.long x2), .second, .val (.long x3), .second, .val (.long x4), .second, .val (.long x5), .second, rv b56, iv (1 : Int32)] [])) (fun t k => XS.istore X79.here hx rfl (hb hby at_156) rfl (l' := #[.val (.long x0), .second, .val (.long x1), .second, .val (.long x2), .second, .val (.long x3), .second, .val (.long x4), .second, .val (.long x5), .second, rv b56, iv (1 : Int32)]) rfl k) ?_
  refine own_go (T' := T79) (g' := (mkF m 160 #[.val (.long x0), .second, .val (.long x1), .second, .val (.long x2), .second, .val (.long x3), .second, .val (.long x4), .second, .val (.long x5), .second, rv b56, iv (1 : Int32)] [(.int (1 : Int32))])) (fun t k => XS.iload X79.here hx rfl (hb hby at_158) rfl k) ?_
  refine own_go (T' := T79) (g' := (mkF m 163 #[.val (.long x0), .second, .val (.long x1), .second, .val (.long x2), .second, .val (.long x3), .second, .val (.long x4), .second, .val (.long x5), .second, rv b56, iv (1 : Int32)] [])) (fun t k => XS.ifNo X79.here hx rfl (hb hby at_160) rfl ((if0 _ _).trans (feq (by decide : ¬ ((1 : Int32) = (0 : Int32)))).1) k) ?_
  refine own_go (T' := T79) (g' := (mkF m 165 #[.val (.long x0), .second, .val (.long x1), .second, .val (.long x2), .second, .val (.long x3), .second, .val (.long x4), .second, .val (.long x5), .second, rv b56, iv (1 : Int32)] [(.ref b56)])) (fun t k => XS.aload X79.here hx rfl (hb hby at_163) rfl rfl k) ?_
  refine own_go (T' := T79) (g' := (mkF m 166 #[.val (.long x0), .second, .val (.long x1), .second, .val (.long x2), .second, .val (.long x3), .second, .val (.long x4), .second, .val (.long x5), .second, rv b56, iv (1 : Int32)] [(.long x1), (.ref b56)])) (fun t k => XS.lloadN X79.here hx rfl (hb hby at_165) rfl k) ?_
  refine own_go (T' := T79) (g' := (mkF m 167 #[.val (.long x0), .second, .val (.long x1), .second, .val (.long x2), .second, .val (.long x3), .second, .val (.long x4), .second, .val (.long x5), .second, rv b56, iv (1 : Int32)] [(.long (1 : Int64)), (.long x1), (.ref b56)])) (fun t k => XS.lconst X79.here hx rfl (hb hby at_166) k) ?_
  refine own_go (T' := T79) (g' := (mkF m 168 #[.val (.long x0), .second, .val (.long x1), .second, .val (.long x2), .second, .val (.long x3), .second, .val (.long x4), .second, .val (.long x5), .second, rv b56, iv (1 : Int32)] [(.long (x1 + (1 : Int64))), (.ref b56)])) (fun t k => XS.ladd X79.here hx rfl (hb hby at_167) rfl k) ?_
  refine own_go (T' := T79) (g' := (mkF m 170 #[.val (.long x0), .second, .val (.long x1), .second, .val (.long x2), .second, .val (.long x3), .second, .val (.long x4), .second, .val (.long x5), .second, rv b56, iv (1 : Int32)] [(.long x5), (.long (x1 + (1 : Int64))), (.ref b56)])) (fun t k => XS.lload X79.here hx rfl (hb hby at_168) rfl k) ?_
  obtain ⟨cq80, kq80, q80a, q80b, q80c⟩ := isOf hZ E79q e_64
  obtain ⟨_, _, ⟨T80, L80, k80, n80⟩, -, X80, ⟨Lc80, hQ80, l80, y80, z80⟩, st80⟩ := X79.virtualBack hx (y := (⟨"com/example/piastrella/piastrella/tiles/TileMatrixLimits", "contains", "(JJ)Z"⟩ : MethodName)) (z := (⟨"com/example/piastrella/piastrella/tiles/TileMatrixLimits", "contains", "(JJ)Z"⟩ : MethodName)) hown (mvT hZ (hw _ (List.mem_of_getElem? (i := 32) rfl))) (mvT hZ (hw _ (List.mem_of_getElem? (i := 33) rfl))) (notFace_of_selects (args := #[]) (mvT hZ (hw _ (List.mem_of_getElem? (i := 35) rfl)))) (mvT hZ (hw _ (List.mem_of_getElem? (i := 35) rfl))) (mvT hZ (hw _ (List.mem_of_getElem? (i := 34) rfl))) (by decide) (backOf (W := 0) (own_rcont l Z a0 hw [] b56 (x1 + (1 : Int64)) x5 x0 x1 x2 x3 T64.heap n0 hz64 f0_64 f1_64 f2_64 f3_64) hZ (hw _ (List.mem_of_getElem? (i := 36) rfl)) (hw _ (List.mem_of_getElem? (i := 2) rfl)) (by decide) (by decide)) q80a q80c (g := (mkF m 170 #[.val (.long x0), .second, .val (.long x1), .second, .val (.long x2), .second, .val (.long x3), .second, .val (.long x4), .second, .val (.long x5), .second, rv b56, iv (1 : Int32)] [(.long x5), (.long (x1 + (1 : Int64))), (.ref b56)])) rfl (by rw [hml]; rfl) (Steps.refl _) (argsL := [(.long (x1 + (1 : Int64))), (.long x5)]) (rest := []) (lenOf own_pd4 rfl) rfl (by show 2 * 0 + _ ≤ _; exact Nat.le_of_eq rfl) (hb hby at_170) (fun _ _ => ⟨rfl, E79q, (by decide : 3 + 0 ≤ _), (by decide : 13 + 0 ≤ _)⟩)
  dsimp only [Pt.U, Pt.locs, Pt.cells, Pt.slots] at X80 l80 y80 z80 st80 hQ80
  subst l80 y80 z80
  obtain ⟨rfl, rfl, e80⟩ := hQ80
  have E80q : T80.heap = T64.heap := e80
  have N80 := Fr.app N79 (Fr.nil n0)
  refine own_go (T' := T80) (g' := (mkF m 173 #[.val (.long x0), .second, .val (.long x1), .second, .val (.long x2), .second, .val (.long x3), .second, .val (.long x4), .second, .val (.long x5), .second, rv b56, iv (1 : Int32)] [(.int (own_cont (x1 + (1 : Int64)) x5 x0 x1 x2 x3))])) (fun t k => st80.trans k) ?_
  refine own_go (T' := T80) (g' := (mkF m 174 #[.val (.long x0), .second, .val (.long x1), .second, .val (.long x2), .second, .val (.long x3), .second, .val (.long x4), .second, .val (.long x5), .second, rv b56, iv (1 : Int32)] [(.long x1), (.int (own_cont (x1 + (1 : Int64)) x5 x0 x1 x2 x3))])) (fun t k => XS.lloadN X80.here hx rfl (hb hby at_173) rfl k) ?_
  refine own_go (T' := T80) (g' := (mkF m 175 #[.val (.long x0), .second, .val (.long x1), .second, .val (.long x2), .second, .val (.long x3), .second, .val (.long x4), .second, .val (.long x5), .second, rv b56, iv (1 : Int32)] [(.long (1 : Int64)), (.long x1), (.int (own_cont (x1 + (1 : Int64)) x5 x0 x1 x2 x3))])) (fun t k => XS.lconst X80.here hx rfl (hb hby at_174) k) ?_
  refine own_go (T' := T80) (g' := (mkF m 176 #[.val (.long x0), .second, .val (.long x1), .second, .val (.long x2), .second, .val (.long x3), .second, .val (.long x4), .second, .val (.long x5), .second, rv b56, iv (1 : Int32)] [(.long (x1 + (1 : Int64))), (.int (own_cont (x1 + (1 : Int64)) x5 x0 x1 x2 x3))])) (fun t k => XS.ladd X80.here hx rfl (hb hby at_175) rfl k) ?_
  refine own_go (T' := T80) (g' := (mkF m 178 #[.val (.long x0), .second, .val (.long x1), .second, .val (.long x2), .second, .val (.long x3), .second, .val (.long x4), .second, .val (.long x5), .second, rv b56, iv (1 : Int32)] [(.long x5), (.long (x1 + (1 : Int64))), (.int (own_cont (x1 + (1 : Int64)) x5 x0 x1 x2 x3))])) (fun t k => XS.lload X80.here hx rfl (hb hby at_176) rfl k) ?_
  refine own_go (T' := T80) (g' := (mkF m 179 #[.val (.long x0), .second, .val (.long x1), .second, .val (.long x2), .second, .val (.long x3), .second, .val (.long x4), .second, .val (.long x5), .second, rv b56, iv (1 : Int32)] [(.long x0), (.long x5), (.long (x1 + (1 : Int64))), (.int (own_cont (x1 + (1 : Int64)) x5 x0 x1 x2 x3))])) (fun t k => XS.lloadN X80.here hx rfl (hb hby at_178) rfl k) ?_
  refine own_go (T' := T80) (g' := (mkF m 180 #[.val (.long x0), .second, .val (.long x1), .second, .val (.long x2), .second, .val (.long x3), .second, .val (.long x4), .second, .val (.long x5), .second, rv b56, iv (1 : Int32)] [(.long x1), (.long x0), (.long x5), (.long (x1 + (1 : Int64))), (.int (own_cont (x1 + (1 : Int64)) x5 x0 x1 x2 x3))])) (fun t k => XS.lloadN X80.here hx rfl (hb hby at_179) rfl k) ?_
  refine own_go (T' := T80) (g' := (mkF m 182 #[.val (.long x0), .second, .val (.long x1), .second, .val (.long x2), .second, .val (.long x3), .second, .val (.long x4), .second, .val (.long x5), .second, rv b56, iv (1 : Int32)] [(.long x2), (.long x1), (.long x0), (.long x5), (.long (x1 + (1 : Int64))), (.int (own_cont (x1 + (1 : Int64)) x5 x0 x1 x2 x3))])) (fun t k => XS.lload X80.here hx rfl (hb hby at_180) rfl k) ?_
  refine own_go (T' := T80) (g' := (mkF m 184 #[.val (.long x0), .second, .val (.long x1), .second, .val (.long x2), .second, .val (.long x3), .second, .val (.long x4), .second, .val (.long x5), .second, rv b56, iv (1 : Int32)] [(.long x3), (.long x2), (.long x1), (.long x0), (.long x5), (.long (x1 + (1 : Int64))), (.int (own_cont (x1 + (1 : Int64)) x5 x0 x1 x2 x3))])) (fun t k => XS.lload X80.here hx rfl (hb hby at_182) rfl k) ?_
  obtain ⟨_, _, ⟨T81, L81, k81, n81⟩, -, X81, ⟨Lc81, hQ81, l81, y81, z81⟩, st81⟩ := Jvm.LawKit.callS X80 hx (y := (⟨"com/example/piastrella/piastrella/tiles/TileMatrixLimitsContainsPinLaw", "ref", "(JJJJJJ)Z"⟩ : MethodName)) hown (mvT hZ (hw _ (List.mem_of_getElem? (i := 37) rfl))) (mvT hZ (hw _ (List.mem_of_getElem? (i := 38) rfl))) (mvT hZ (hw _ (List.mem_of_getElem? (i := 39) rfl))) (mvT hZ (hw _ (List.mem_of_getElem? (i := 40) rfl))) (by decide) (backOf (W := 1) (own_rref l Z a0 hw [] (x1 + (1 : Int64)) x5 x0 x1 x2 x3 T64.heap n0 hz64) hZ (hw _ (List.mem_of_getElem? (i := 40) rfl)) (hw _ (List.mem_of_getElem? (i := 39) rfl)) (by decide) (by decide)) (g := (mkF m 184 #[.val (.long x0), .second, .val (.long x1), .second, .val (.long x2), .second, .val (.long x3), .second, .val (.long x4), .second, .val (.long x5), .second, rv b56, iv (1 : Int32)] [(.long x3), (.long x2), (.long x1), (.long x0), (.long x5), (.long (x1 + (1 : Int64))), (.int (own_cont (x1 + (1 : Int64)) x5 x0 x1 x2 x3))])) rfl (by rw [hml]; rfl) (argsL := [(.long (x1 + (1 : Int64))), (.long x5), (.long x0), (.long x1), (.long x2), (.long x3)]) (rest := [(.int (own_cont (x1 + (1 : Int64)) x5 x0 x1 x2 x3))]) (lenOf own_pd5 rfl) rfl (by show 2 * 0 + _ ≤ _; exact Nat.le_of_eq rfl) (hb hby at_184) (fun _ _ => ⟨rfl, E80q, (by decide : 3 + 0 ≤ _), (by decide : 13 + 0 ≤ _)⟩)
  dsimp only [Pt.U, Pt.locs, Pt.cells, Pt.slots] at X81 l81 y81 z81 st81 hQ81
  subst l81 y81 z81
  obtain ⟨rfl, rfl, e81⟩ := hQ81
  have E81q : T81.heap = T64.heap := e81
  have N81 := Fr.app N80 (Fr.nil n0)
  refine own_go (T' := T81) (g' := (mkF m 187 #[.val (.long x0), .second, .val (.long x1), .second, .val (.long x2), .second, .val (.long x3), .second, .val (.long x4), .second, .val (.long x5), .second, rv b56, iv (1 : Int32)] [(.int (own_ref (x1 + (1 : Int64)) x5 x0 x1 x2 x3)), (.int (own_cont (x1 + (1 : Int64)) x5 x0 x1 x2 x3))])) (st81) ?_
  refine own_go (T' := T81) (g' := (mkF m 190 #[.val (.long x0), .second, .val (.long x1), .second, .val (.long x2), .second, .val (.long x3), .second, .val (.long x4), .second, .val (.long x5), .second, rv b56, iv (1 : Int32)] [])) (fun t k => XS.icmpNo X81.here hx rfl (hb hby at_187) rfl (teq (own_key _ _ _ _ _ _ : ((own_cont (x1 + (1 : Int64)) x5 x0 x1 x2 x3) = (own_ref (x1 + (1 : Int64)) x5 x0 x1 x2 x3)))).2 k) ?_
  refine own_go (T' := T81) (g' := (mkF m 191 #[.val (.long x0), .second, .val (.long x1), .second, .val (.long x2), .second, .val (.long x3), .second, .val (.long x4), .second, .val (.long x5), .second, rv b56, iv (1 : Int32)] [(.int (1 : Int32))])) (fun t k => XS.iconst X81.here hx rfl (hb hby at_190) k) ?_
  refine own_go (T' := T81) (g' := (mkF m 195 #[.val (.long x0), .second, .val (.long x1), .second, .val (.long x2), .second, .val (.long x3), .second, .val (.long x4), .second, .val (.long x5), .second, rv b56, iv (1 : Int32)] [(.int (1 : Int32))])) (fun t k => XS.goto X81.here hx rfl (pc0 := 191) (pc' := 195) rfl (hb hby at_191) (by decide) (by decide) k) ?_
  refine own_go (T' := T81) (g' := (mkF m 197 #[.val (.long x0), .second, .val (.long x1), .second, .val (.long x2), .second, .val (.long x3), .second, .val (.long x4), .second, .val (.long x5), .second, rv b56, iv (1 : Int32)] [])) (fun t k => XS.istore X81.here hx rfl (hb hby at_195) rfl (l' := #[.val (.long x0), .second, .val (.long x1), .second, .val (.long x2), .second, .val (.long x3), .second, .val (.long x4), .second, .val (.long x5), .second, rv b56, iv (1 : Int32)]) rfl k) ?_
  refine own_go (T' := T81) (g' := (mkF m 199 #[.val (.long x0), .second, .val (.long x1), .second, .val (.long x2), .second, .val (.long x3), .second, .val (.long x4), .second, .val (.long x5), .second, rv b56, iv (1 : Int32)] [(.int (1 : Int32))])) (fun t k => XS.iload X81.here hx rfl (hb hby at_197) rfl k) ?_
  refine own_go (T' := T81) (g' := (mkF m 202 #[.val (.long x0), .second, .val (.long x1), .second, .val (.long x2), .second, .val (.long x3), .second, .val (.long x4), .second, .val (.long x5), .second, rv b56, iv (1 : Int32)] [])) (fun t k => XS.ifNo X81.here hx rfl (hb hby at_199) rfl ((if0 _ _).trans (feq (by decide : ¬ ((1 : Int32) = (0 : Int32)))).1) k) ?_
  refine own_go (T' := T81) (g' := (mkF m 204 #[.val (.long x0), .second, .val (.long x1), .second, .val (.long x2), .second, .val (.long x3), .second, .val (.long x4), .second, .val (.long x5), .second, rv b56, iv (1 : Int32)] [(.ref b56)])) (fun t k => XS.aload X81.here hx rfl (hb hby at_202) rfl rfl k) ?_
  refine own_go (T' := T81) (g' := (mkF m 206 #[.val (.long x0), .second, .val (.long x1), .second, .val (.long x2), .second, .val (.long x3), .second, .val (.long x4), .second, .val (.long x5), .second, rv b56, iv (1 : Int32)] [(.long x4), (.ref b56)])) (fun t k => XS.lload X81.here hx rfl (hb hby at_204) rfl k) ?_
  refine own_go (T' := T81) (g' := (mkF m 208 #[.val (.long x0), .second, .val (.long x1), .second, .val (.long x2), .second, .val (.long x3), .second, .val (.long x4), .second, .val (.long x5), .second, rv b56, iv (1 : Int32)] [(.long x2), (.long x4), (.ref b56)])) (fun t k => XS.lload X81.here hx rfl (hb hby at_206) rfl k) ?_
  refine own_go (T' := T81) (g' := (mkF m 209 #[.val (.long x0), .second, .val (.long x1), .second, .val (.long x2), .second, .val (.long x3), .second, .val (.long x4), .second, .val (.long x5), .second, rv b56, iv (1 : Int32)] [(.long (1 : Int64)), (.long x2), (.long x4), (.ref b56)])) (fun t k => XS.lconst X81.here hx rfl (hb hby at_208) k) ?_
  refine own_go (T' := T81) (g' := (mkF m 210 #[.val (.long x0), .second, .val (.long x1), .second, .val (.long x2), .second, .val (.long x3), .second, .val (.long x4), .second, .val (.long x5), .second, rv b56, iv (1 : Int32)] [(.long (x2 - (1 : Int64))), (.long x4), (.ref b56)])) (fun t k => XS.lsub X81.here hx rfl (hb hby at_209) rfl k) ?_
  obtain ⟨cq82, kq82, q82a, q82b, q82c⟩ := isOf hZ E81q e_64
  obtain ⟨_, _, ⟨T82, L82, k82, n82⟩, -, X82, ⟨Lc82, hQ82, l82, y82, z82⟩, st82⟩ := X81.virtualBack hx (y := (⟨"com/example/piastrella/piastrella/tiles/TileMatrixLimits", "contains", "(JJ)Z"⟩ : MethodName)) (z := (⟨"com/example/piastrella/piastrella/tiles/TileMatrixLimits", "contains", "(JJ)Z"⟩ : MethodName)) hown (mvT hZ (hw _ (List.mem_of_getElem? (i := 32) rfl))) (mvT hZ (hw _ (List.mem_of_getElem? (i := 33) rfl))) (notFace_of_selects (args := #[]) (mvT hZ (hw _ (List.mem_of_getElem? (i := 35) rfl)))) (mvT hZ (hw _ (List.mem_of_getElem? (i := 35) rfl))) (mvT hZ (hw _ (List.mem_of_getElem? (i := 34) rfl))) (by decide) (backOf (W := 0) (own_rcont l Z a0 hw [] b56 x4 (x2 - (1 : Int64)) x0 x1 x2 x3 T64.heap n0 hz64 f0_64 f1_64 f2_64 f3_64) hZ (hw _ (List.mem_of_getElem? (i := 36) rfl)) (hw _ (List.mem_of_getElem? (i := 2) rfl)) (by decide) (by decide)) q82a q82c (g := (mkF m 210 #[.val (.long x0), .second, .val (.long x1), .second, .val (.long x2), .second, .val (.long x3), .second, .val (.long x4), .second, .val (.long x5), .second, rv b56, iv (1 : Int32)] [(.long (x2 - (1 : Int64))), (.long x4), (.ref b56)])) rfl (by rw [hml]; rfl) (Steps.refl _) (argsL := [(.long x4), (.long (x2 - (1 : Int64)))]) (rest := []) (lenOf own_pd4 rfl) rfl (by show 2 * 0 + _ ≤ _; exact Nat.le_of_eq rfl) (hb hby at_210) (fun _ _ => ⟨rfl, E81q, (by decide : 3 + 0 ≤ _), (by decide : 13 + 0 ≤ _)⟩)
  dsimp only [Pt.U, Pt.locs, Pt.cells, Pt.slots] at X82 l82 y82 z82 st82 hQ82
  subst l82 y82 z82
  obtain ⟨rfl, rfl, e82⟩ := hQ82
  have E82q : T82.heap = T64.heap := e82
  have N82 := Fr.app N81 (Fr.nil n0)
  refine own_go (T' := T82) (g' := (mkF m 213 #[.val (.long x0), .second, .val (.long x1), .second, .val (.long x2), .second, .val (.long x3), .second, .val (.long x4), .second, .val (.long x5), .second, rv b56, iv (1 : Int32)] [(.int (own_cont x4 (x2 - (1 : Int64)) x0 x1 x2 x3))])) (fun t k => st82.trans k) ?_
  refine own_go (T' := T82) (g' := (mkF m 215 #[.val (.long x0), .second, .val (.long x1), .second, .val (.long x2), .second, .val (.long x3), .second, .val (.long x4), .second, .val (.long x5), .second, rv b56, iv (1 : Int32)] [(.long x4), (.int (own_cont x4 (x2 - (1 : Int64)) x0 x1 x2 x3))])) (fun t k => XS.lload X82.here hx rfl (hb hby at_213) rfl k) ?_
  refine own_go (T' := T82) (g' := (mkF m 217 #[.val (.long x0), .second, .val (.long x1), .second, .val (.long x2), .second, .val (.long x3), .second, .val (.long x4), .second, .val (.long x5), .second, rv b56, iv (1 : Int32)] [(.long x2), (.long x4), (.int (own_cont x4 (x2 - (1 : Int64)) x0 x1 x2 x3))])) (fun t k => XS.lload X82.here hx rfl (hb hby at_215) rfl k) ?_
  refine own_go (T' := T82) (g' := (mkF m 218 #[.val (.long x0), .second, .val (.long x1), .second, .val (.long x2), .second, .val (.long x3), .second, .val (.long x4), .second, .val (.long x5), .second, rv b56, iv (1 : Int32)] [(.long (1 : Int64)), (.long x2), (.long x4), (.int (own_cont x4 (x2 - (1 : Int64)) x0 x1 x2 x3))])) (fun t k => XS.lconst X82.here hx rfl (hb hby at_217) k) ?_
  refine own_go (T' := T82) (g' := (mkF m 219 #[.val (.long x0), .second, .val (.long x1), .second, .val (.long x2), .second, .val (.long x3), .second, .val (.long x4), .second, .val (.long x5), .second, rv b56, iv (1 : Int32)] [(.long (x2 - (1 : Int64))), (.long x4), (.int (own_cont x4 (x2 - (1 : Int64)) x0 x1 x2 x3))])) (fun t k => XS.lsub X82.here hx rfl (hb hby at_218) rfl k) ?_
  refine own_go (T' := T82) (g' := (mkF m 220 #[.val (.long x0), .second, .val (.long x1), .second, .val (.long x2), .second, .val (.long x3), .second, .val (.long x4), .second, .val (.long x5), .second, rv b56, iv (1 : Int32)] [(.long x0), (.long (x2 - (1 : Int64))), (.long x4), (.int (own_cont x4 (x2 - (1 : Int64)) x0 x1 x2 x3))])) (fun t k => XS.lloadN X82.here hx rfl (hb hby at_219) rfl k) ?_
  refine own_go (T' := T82) (g' := (mkF m 221 #[.val (.long x0), .second, .val (.long x1), .second, .val (.long x2), .second, .val (.long x3), .second, .val (.long x4), .second, .val (.long x5), .second, rv b56, iv (1 : Int32)] [(.long x1), (.long x0), (.long (x2 - (1 : Int64))), (.long x4), (.int (own_cont x4 (x2 - (1 : Int64)) x0 x1 x2 x3))])) (fun t k => XS.lloadN X82.here hx rfl (hb hby at_220) rfl k) ?_
  refine own_go (T' := T82) (g' := (mkF m 223 #[.val (.long x0), .second, .val (.long x1), .second, .val (.long x2), .second, .val (.long x3), .second, .val (.long x4), .second, .val (.long x5), .second, rv b56, iv (1 : Int32)] [(.long x2), (.long x1), (.long x0), (.long (x2 - (1 : Int64))), (.long x4), (.int (own_cont x4 (x2 - (1 : Int64)) x0 x1 x2 x3))])) (fun t k => XS.lload X82.here hx rfl (hb hby at_221) rfl k) ?_
  refine own_go (T' := T82) (g' := (mkF m 225 #[.val (.long x0), .second, .val (.long x1), .second, .val (.long x2), .second, .val (.long x3), .second, .val (.long x4), .second, .val (.long x5), .second, rv b56, iv (1 : Int32)] [(.long x3), (.long x2), (.long x1), (.long x0), (.long (x2 - (1 : Int64))), (.long x4), (.int (own_cont x4 (x2 - (1 : Int64)) x0 x1 x2 x3))])) (fun t k => XS.lload X82.here hx rfl (hb hby at_223) rfl k) ?_
  obtain ⟨_, _, ⟨T83, L83, k83, n83⟩, -, X83, ⟨Lc83, hQ83, l83, y83, z83⟩, st83⟩ := Jvm.LawKit.callS X82 hx (y := (⟨"com/example/piastrella/piastrella/tiles/TileMatrixLimitsContainsPinLaw", "ref", "(JJJJJJ)Z"⟩ : MethodName)) hown (mvT hZ (hw _ (List.mem_of_getElem? (i := 37) rfl))) (mvT hZ (hw _ (List.mem_of_getElem? (i := 38) rfl))) (mvT hZ (hw _ (List.mem_of_getElem? (i := 39) rfl))) (mvT hZ (hw _ (List.mem_of_getElem? (i := 40) rfl))) (by decide) (backOf (W := 1) (own_rref l Z a0 hw [] x4 (x2 - (1 : Int64)) x0 x1 x2 x3 T64.heap n0 hz64) hZ (hw _ (List.mem_of_getElem? (i := 40) rfl)) (hw _ (List.mem_of_getElem? (i := 39) rfl)) (by decide) (by decide)) (g := (mkF m 225 #[.val (.long x0), .second, .val (.long x1), .second, .val (.long x2), .second, .val (.long x3), .second, .val (.long x4), .second, .val (.long x5), .second, rv b56, iv (1 : Int32)] [(.long x3), (.long x2), (.long x1), (.long x0), (.long (x2 - (1 : Int64))), (.long x4), (.int (own_cont x4 (x2 - (1 : Int64)) x0 x1 x2 x3))])) rfl (by rw [hml]; rfl) (argsL := [(.long x4), (.long (x2 - (1 : Int64))), (.long x0), (.long x1), (.long x2), (.long x3)]) (rest := [(.int (own_cont x4 (x2 - (1 : Int64)) x0 x1 x2 x3))]) (lenOf own_pd5 rfl) rfl (by show 2 * 0 + _ ≤ _; exact Nat.le_of_eq rfl) (hb hby at_225) (fun _ _ => ⟨rfl, E82q, (by decide : 3 + 0 ≤ _), (by decide : 13 + 0 ≤ _)⟩)
  dsimp only [Pt.U, Pt.locs, Pt.cells, Pt.slots] at X83 l83 y83 z83 st83 hQ83
  subst l83 y83 z83
  obtain ⟨rfl, rfl, e83⟩ := hQ83
  have E83q : T83.heap = T64.heap := e83
  have N83 := Fr.app N82 (Fr.nil n0)
  refine own_go (T' := T83) (g' := (mkF m 228 #[.val (.long x0), .second, .val (.long x1), .second, .val (.long x2), .second, .val (.long x3), .second, .val (.long x4), .second, .val (.long x5), .second, rv b56, iv (1 : Int32)] [(.int (own_ref x4 (x2 - (1 : Int64)) x0 x1 x2 x3)), (.int (own_cont x4 (x2 - (1 : Int64)) x0 x1 x2 x3))])) (st83) ?_
  refine own_go (T' := T83) (g' := (mkF m 231 #[.val (.long x0), .second, .val (.long x1), .second, .val (.long x2), .second, .val (.long x3), .second, .val (.long x4), .second, .val (.long x5), .second, rv b56, iv (1 : Int32)] [])) (fun t k => XS.icmpNo X83.here hx rfl (hb hby at_228) rfl (teq (own_key _ _ _ _ _ _ : ((own_cont x4 (x2 - (1 : Int64)) x0 x1 x2 x3) = (own_ref x4 (x2 - (1 : Int64)) x0 x1 x2 x3)))).2 k) ?_
  refine own_go (T' := T83) (g' := (mkF m 232 #[.val (.long x0), .second, .val (.long x1), .second, .val (.long x2), .second, .val (.long x3), .second, .val (.long x4), .second, .val (.long x5), .second, rv b56, iv (1 : Int32)] [(.int (1 : Int32))])) (fun t k => XS.iconst X83.here hx rfl (hb hby at_231) k) ?_
  refine own_go (T' := T83) (g' := (mkF m 236 #[.val (.long x0), .second, .val (.long x1), .second, .val (.long x2), .second, .val (.long x3), .second, .val (.long x4), .second, .val (.long x5), .second, rv b56, iv (1 : Int32)] [(.int (1 : Int32))])) (fun t k => XS.goto X83.here hx rfl (pc0 := 232) (pc' := 236) rfl (hb hby at_232) (by decide) (by decide) k) ?_
  refine own_go (T' := T83) (g' := (mkF m 238 #[.val (.long x0), .second, .val (.long x1), .second, .val (.long x2), .second, .val (.long x3), .second, .val (.long x4), .second, .val (.long x5), .second, rv b56, iv (1 : Int32)] [])) (fun t k => XS.istore X83.here hx rfl (hb hby at_236) rfl (l' := #[.val (.long x0), .second, .val (.long x1), .second, .val (.long x2), .second, .val (.long x3), .second, .val (.long x4), .second, .val (.long x5), .second, rv b56, iv (1 : Int32)]) rfl k) ?_
  refine own_go (T' := T83) (g' := (mkF m 240 #[.val (.long x0), .second, .val (.long x1), .second, .val (.long x2), .second, .val (.long x3), .second, .val (.long x4), .second, .val (.long x5), .second, rv b56, iv (1 : Int32)] [(.int (1 : Int32))])) (fun t k => XS.iload X83.here hx rfl (hb hby at_238) rfl k) ?_
  refine own_go (T' := T83) (g' := (mkF m 243 #[.val (.long x0), .second, .val (.long x1), .second, .val (.long x2), .second, .val (.long x3), .second, .val (.long x4), .second, .val (.long x5), .second, rv b56, iv (1 : Int32)] [])) (fun t k => XS.ifNo X83.here hx rfl (hb hby at_240) rfl ((if0 _ _).trans (feq (by decide : ¬ ((1 : Int32) = (0 : Int32)))).1) k) ?_
  refine own_go (T' := T83) (g' := (mkF m 245 #[.val (.long x0), .second, .val (.long x1), .second, .val (.long x2), .second, .val (.long x3), .second, .val (.long x4), .second, .val (.long x5), .second, rv b56, iv (1 : Int32)] [(.ref b56)])) (fun t k => XS.aload X83.here hx rfl (hb hby at_243) rfl rfl k) ?_
  refine own_go (T' := T83) (g' := (mkF m 247 #[.val (.long x0), .second, .val (.long x1), .second, .val (.long x2), .second, .val (.long x3), .second, .val (.long x4), .second, .val (.long x5), .second, rv b56, iv (1 : Int32)] [(.long x4), (.ref b56)])) (fun t k => XS.lload X83.here hx rfl (hb hby at_245) rfl k) ?_
  refine own_go (T' := T83) (g' := (mkF m 249 #[.val (.long x0), .second, .val (.long x1), .second, .val (.long x2), .second, .val (.long x3), .second, .val (.long x4), .second, .val (.long x5), .second, rv b56, iv (1 : Int32)] [(.long x3), (.long x4), (.ref b56)])) (fun t k => XS.lload X83.here hx rfl (hb hby at_247) rfl k) ?_
  refine own_go (T' := T83) (g' := (mkF m 250 #[.val (.long x0), .second, .val (.long x1), .second, .val (.long x2), .second, .val (.long x3), .second, .val (.long x4), .second, .val (.long x5), .second, rv b56, iv (1 : Int32)] [(.long (1 : Int64)), (.long x3), (.long x4), (.ref b56)])) (fun t k => XS.lconst X83.here hx rfl (hb hby at_249) k) ?_
  refine own_go (T' := T83) (g' := (mkF m 251 #[.val (.long x0), .second, .val (.long x1), .second, .val (.long x2), .second, .val (.long x3), .second, .val (.long x4), .second, .val (.long x5), .second, rv b56, iv (1 : Int32)] [(.long (x3 + (1 : Int64))), (.long x4), (.ref b56)])) (fun t k => XS.ladd X83.here hx rfl (hb hby at_250) rfl k) ?_
  obtain ⟨cq84, kq84, q84a, q84b, q84c⟩ := isOf hZ E83q e_64
  obtain ⟨_, _, ⟨T84, L84, k84, n84⟩, -, X84, ⟨Lc84, hQ84, l84, y84, z84⟩, st84⟩ := X83.virtualBack hx (y := (⟨"com/example/piastrella/piastrella/tiles/TileMatrixLimits", "contains", "(JJ)Z"⟩ : MethodName)) (z := (⟨"com/example/piastrella/piastrella/tiles/TileMatrixLimits", "contains", "(JJ)Z"⟩ : MethodName)) hown (mvT hZ (hw _ (List.mem_of_getElem? (i := 32) rfl))) (mvT hZ (hw _ (List.mem_of_getElem? (i := 33) rfl))) (notFace_of_selects (args := #[]) (mvT hZ (hw _ (List.mem_of_getElem? (i := 35) rfl)))) (mvT hZ (hw _ (List.mem_of_getElem? (i := 35) rfl))) (mvT hZ (hw _ (List.mem_of_getElem? (i := 34) rfl))) (by decide) (backOf (W := 0) (own_rcont l Z a0 hw [] b56 x4 (x3 + (1 : Int64)) x0 x1 x2 x3 T64.heap n0 hz64 f0_64 f1_64 f2_64 f3_64) hZ (hw _ (List.mem_of_getElem? (i := 36) rfl)) (hw _ (List.mem_of_getElem? (i := 2) rfl)) (by decide) (by decide)) q84a q84c (g := (mkF m 251 #[.val (.long x0), .second, .val (.long x1), .second, .val (.long x2), .second, .val (.long x3), .second, .val (.long x4), .second, .val (.long x5), .second, rv b56, iv (1 : Int32)] [(.long (x3 + (1 : Int64))), (.long x4), (.ref b56)])) rfl (by rw [hml]; rfl) (Steps.refl _) (argsL := [(.long x4), (.long (x3 + (1 : Int64)))]) (rest := []) (lenOf own_pd4 rfl) rfl (by show 2 * 0 + _ ≤ _; exact Nat.le_of_eq rfl) (hb hby at_251) (fun _ _ => ⟨rfl, E83q, (by decide : 3 + 0 ≤ _), (by decide : 13 + 0 ≤ _)⟩)
  dsimp only [Pt.U, Pt.locs, Pt.cells, Pt.slots] at X84 l84 y84 z84 st84 hQ84
  subst l84 y84 z84
  obtain ⟨rfl, rfl, e84⟩ := hQ84
  have E84q : T84.heap = T64.heap := e84
  have N84 := Fr.app N83 (Fr.nil n0)
  refine own_go (T' := T84) (g' := (mkF m 254 #[.val (.long x0), .second, .val (.long x1), .second, .val (.long x2), .second, .val (.long x3), .second, .val (.long x4), .second, .val (.long x5), .second, rv b56, iv (1 : Int32)] [(.int (own_cont x4 (x3 + (1 : Int64)) x0 x1 x2 x3))])) (fun t k => st84.trans k) ?_
  refine own_go (T' := T84) (g' := (mkF m 256 #[.val (.long x0), .second, .val (.long x1), .second, .val (.long x2), .second, .val (.long x3), .second, .val (.long x4), .second, .val (.long x5), .second, rv b56, iv (1 : Int32)] [(.long x4), (.int (own_cont x4 (x3 + (1 : Int64)) x0 x1 x2 x3))])) (fun t k => XS.lload X84.here hx rfl (hb hby at_254) rfl k) ?_
  refine own_go (T' := T84) (g' := (mkF m 258 #[.val (.long x0), .second, .val (.long x1), .second, .val (.long x2), .second, .val (.long x3), .second, .val (.long x4), .second, .val (.long x5), .second, rv b56, iv (1 : Int32)] [(.long x3), (.long x4), (.int (own_cont x4 (x3 + (1 : Int64)) x0 x1 x2 x3))])) (fun t k => XS.lload X84.here hx rfl (hb hby at_256) rfl k) ?_
  refine own_go (T' := T84) (g' := (mkF m 259 #[.val (.long x0), .second, .val (.long x1), .second, .val (.long x2), .second, .val (.long x3), .second, .val (.long x4), .second, .val (.long x5), .second, rv b56, iv (1 : Int32)] [(.long (1 : Int64)), (.long x3), (.long x4), (.int (own_cont x4 (x3 + (1 : Int64)) x0 x1 x2 x3))])) (fun t k => XS.lconst X84.here hx rfl (hb hby at_258) k) ?_
  refine own_go (T' := T84) (g' := (mkF m 260 #[.val (.long x0), .second, .val (.long x1), .second, .val (.long x2), .second, .val (.long x3), .second, .val (.long x4), .second, .val (.long x5), .second, rv b56, iv (1 : Int32)] [(.long (x3 + (1 : Int64))), (.long x4), (.int (own_cont x4 (x3 + (1 : Int64)) x0 x1 x2 x3))])) (fun t k => XS.ladd X84.here hx rfl (hb hby at_259) rfl k) ?_
  refine own_go (T' := T84) (g' := (mkF m 261 #[.val (.long x0), .second, .val (.long x1), .second, .val (.long x2), .second, .val (.long x3), .second, .val (.long x4), .second, .val (.long x5), .second, rv b56, iv (1 : Int32)] [(.long x0), (.long (x3 + (1 : Int64))), (.long x4), (.int (own_cont x4 (x3 + (1 : Int64)) x0 x1 x2 x3))])) (fun t k => XS.lloadN X84.here hx rfl (hb hby at_260) rfl k) ?_
  refine own_go (T' := T84) (g' := (mkF m 262 #[.val (.long x0), .second, .val (.long x1), .second, .val (.long x2), .second, .val (.long x3), .second, .val (.long x4), .second, .val (.long x5), .second, rv b56, iv (1 : Int32)] [(.long x1), (.long x0), (.long (x3 + (1 : Int64))), (.long x4), (.int (own_cont x4 (x3 + (1 : Int64)) x0 x1 x2 x3))])) (fun t k => XS.lloadN X84.here hx rfl (hb hby at_261) rfl k) ?_
  refine own_go (T' := T84) (g' := (mkF m 264 #[.val (.long x0), .second, .val (.long x1), .second, .val (.long x2), .second, .val (.long x3), .second, .val (.long x4), .second, .val (.long x5), .second, rv b56, iv (1 : Int32)] [(.long x2), (.long x1), (.long x0), (.long (x3 + (1 : Int64))), (.long x4), (.int (own_cont x4 (x3 + (1 : Int64)) x0 x1 x2 x3))])) (fun t k => XS.lload X84.here hx rfl (hb hby at_262) rfl k) ?_
  refine own_go (T' := T84) (g' := (mkF m 266 #[.val (.long x0), .second, .val (.long x1), .second, .val (.long x2), .second, .val (.long x3), .second, .val (.long x4), .second, .val (.long x5), .second, rv b56, iv (1 : Int32)] [(.long x3), (.long x2), (.long x1), (.long x0), (.long (x3 + (1 : Int64))), (.long x4), (.int (own_cont x4 (x3 + (1 : Int64)) x0 x1 x2 x3))])) (fun t k => XS.lload X84.here hx rfl (hb hby at_264) rfl k) ?_
  obtain ⟨_, _, ⟨T85, L85, k85, n85⟩, -, X85, ⟨Lc85, hQ85, l85, y85, z85⟩, st85⟩ := Jvm.LawKit.callS X84 hx (y := (⟨"com/example/piastrella/piastrella/tiles/TileMatrixLimitsContainsPinLaw", "ref", "(JJJJJJ)Z"⟩ : MethodName)) hown (mvT hZ (hw _ (List.mem_of_getElem? (i := 37) rfl))) (mvT hZ (hw _ (List.mem_of_getElem? (i := 38) rfl))) (mvT hZ (hw _ (List.mem_of_getElem? (i := 39) rfl))) (mvT hZ (hw _ (List.mem_of_getElem? (i := 40) rfl))) (by decide) (backOf (W := 1) (own_rref l Z a0 hw [] x4 (x3 + (1 : Int64)) x0 x1 x2 x3 T64.heap n0 hz64) hZ (hw _ (List.mem_of_getElem? (i := 40) rfl)) (hw _ (List.mem_of_getElem? (i := 39) rfl)) (by decide) (by decide)) (g := (mkF m 266 #[.val (.long x0), .second, .val (.long x1), .second, .val (.long x2), .second, .val (.long x3), .second, .val (.long x4), .second, .val (.long x5), .second, rv b56, iv (1 : Int32)] [(.long x3), (.long x2), (.long x1), (.long x0), (.long (x3 + (1 : Int64))), (.long x4), (.int (own_cont x4 (x3 + (1 : Int64)) x0 x1 x2 x3))])) rfl (by rw [hml]; rfl) (argsL := [(.long x4), (.long (x3 + (1 : Int64))), (.long x0), (.long x1), (.long x2), (.long x3)]) (rest := [(.int (own_cont x4 (x3 + (1 : Int64)) x0 x1 x2 x3))]) (lenOf own_pd5 rfl) rfl (by show 2 * 0 + _ ≤ _; exact Nat.le_of_eq rfl) (hb hby at_266) (fun _ _ => ⟨rfl, E84q, (by decide : 3 + 0 ≤ _), (by decide : 13 + 0 ≤ _)⟩)
  dsimp only [Pt.U, Pt.locs, Pt.cells, Pt.slots] at X85 l85 y85 z85 st85 hQ85
  subst l85 y85 z85
  obtain ⟨rfl, rfl, e85⟩ := hQ85
  have E85q : T85.heap = T64.heap := e85
  have N85 := Fr.app N84 (Fr.nil n0)
  refine own_go (T' := T85) (g' := (mkF m 269 #[.val (.long x0), .second, .val (.long x1), .second, .val (.long x2), .second, .val (.long x3), .second, .val (.long x4), .second, .val (.long x5), .second, rv b56, iv (1 : Int32)] [(.int (own_ref x4 (x3 + (1 : Int64)) x0 x1 x2 x3)), (.int (own_cont x4 (x3 + (1 : Int64)) x0 x1 x2 x3))])) (st85) ?_
  refine own_go (T' := T85) (g' := (mkF m 272 #[.val (.long x0), .second, .val (.long x1), .second, .val (.long x2), .second, .val (.long x3), .second, .val (.long x4), .second, .val (.long x5), .second, rv b56, iv (1 : Int32)] [])) (fun t k => XS.icmpNo X85.here hx rfl (hb hby at_269) rfl (teq (own_key _ _ _ _ _ _ : ((own_cont x4 (x3 + (1 : Int64)) x0 x1 x2 x3) = (own_ref x4 (x3 + (1 : Int64)) x0 x1 x2 x3)))).2 k) ?_
  refine own_go (T' := T85) (g' := (mkF m 273 #[.val (.long x0), .second, .val (.long x1), .second, .val (.long x2), .second, .val (.long x3), .second, .val (.long x4), .second, .val (.long x5), .second, rv b56, iv (1 : Int32)] [(.int (1 : Int32))])) (fun t k => XS.iconst X85.here hx rfl (hb hby at_272) k) ?_
  refine own_go (T' := T85) (g' := (mkF m 277 #[.val (.long x0), .second, .val (.long x1), .second, .val (.long x2), .second, .val (.long x3), .second, .val (.long x4), .second, .val (.long x5), .second, rv b56, iv (1 : Int32)] [(.int (1 : Int32))])) (fun t k => XS.goto X85.here hx rfl (pc0 := 273) (pc' := 277) rfl (hb hby at_273) (by decide) (by decide) k) ?_
  refine own_go (T' := T85) (g' := (mkF m 279 #[.val (.long x0), .second, .val (.long x1), .second, .val (.long x2), .second, .val (.long x3), .second, .val (.long x4), .second, .val (.long x5), .second, rv b56, iv (1 : Int32)] [])) (fun t k => XS.istore X85.here hx rfl (hb hby at_277) rfl (l' := #[.val (.long x0), .second, .val (.long x1), .second, .val (.long x2), .second, .val (.long x3), .second, .val (.long x4), .second, .val (.long x5), .second, rv b56, iv (1 : Int32)]) rfl k) ?_
  refine own_go (T' := T85) (g' := (mkF m 281 #[.val (.long x0), .second, .val (.long x1), .second, .val (.long x2), .second, .val (.long x3), .second, .val (.long x4), .second, .val (.long x5), .second, rv b56, iv (1 : Int32)] [(.int (1 : Int32))])) (fun t k => XS.iload X85.here hx rfl (hb hby at_279) rfl k) ?_
  exact own_retW X85 hS (by rw [E85q]; exact hkq64) hlk hx Bd.returns rfl (Or.inl ⟨rfl, Or.inr (Or.inl rfl), _, rfl⟩) (hb hby at_281) (by first | exact ⟨rfl, N85⟩ | (rw [Fr] at *; exact ⟨rfl, by simpa using N85⟩)) (by decide) (by decide)

set_option maxRecDepth 65536 in
set_option maxHeartbeats 40000000 in
theorem own_comes {Post : Tables → Env → Array Value → State → Outcome → State → Prop} (hpost : ∀ tb e args s v u, (limb_1_1.after args s (.returned v) u = true ∧ limb_1_2.after args s (.returned v) u = true ∧ True) → ReturnedEndW s (.returned v) u (Jvm.fieldLocs frame_1_writes args s ++ Jvm.arrayLocs frame_1_arrays args s ++ Jvm.staticLocs frame_1_statics s) 16 1152 → Post tb e args s (.returned v) u) :
    ArmFor flags0 classFile x code maxLocals ret World_1 tables_1 room_1 Calls_1 rest_1 Pre_1 Post := by
  intro l hfl _ _ p e ha hc hk s m args below hf hA hF happ hP
  obtain ⟨hcalls, hrest, hpre⟩ := hP
  obtain ⟨-, -, -, hnamed, -, -, -, hat⟩ := (Spec.applies_iff hf).mp happ
  obtain ⟨hg, hn⟩ := and_e (Cond.before_iff.mp (show (Jvm.Cond.and given_1 narrow_1).before args s = true from hpre))
  obtain ⟨hg0, hg1⟩ := and_e hg
  obtain ⟨ha0, hr0⟩ := and_e hg1
  obtain ⟨ha1, hr1⟩ := and_e hr0
  obtain ⟨ha2, hr2⟩ := and_e hr1
  obtain ⟨ha3, hr3⟩ := and_e hr2
  obtain ⟨ha4, hr4⟩ := and_e hr3
  obtain ⟨w0, w1, w2, w3, w4, w5, rfl⟩ : ∃ w0 w1 w2 w3 w4 w5 : Value, args = #[w0, w1, w2, w3, w4, w5] := by
    have hs : args.size = 6 := by simpa [Cond.value, given_1] using hg0
    obtain ⟨L⟩ := args
    match L, hs with
    | [w0, w1, w2, w3, w4, w5], _ => exact ⟨w0, w1, w2, w3, w4, w5, rfl⟩
  have hw := fun d (hd : d ∈ tables_1) => atoms_spec (ws := Jvm.Cond.code x code maxLocals ret :: tables_1) hat d (List.mem_cons_of_mem _ hd)
  have hfit : Fit s := fun {y c} hc i hi => by
    obtain ⟨ha, rfl⟩ := Array.getElem?_eq_some_iff.mp hc
    have q := List.all_eq_true.mp ((Array.all_eq_true_iff_forall_mem.mp hF) _ (Array.getElem_mem ha)) i (List.mem_range.mpr hi)
    simpa [Array.getElem?_eq_getElem hi] using q
  obtain ⟨x0, ex0⟩ := isL_v ha0
  obtain rfl : w0 = (.long x0) := Option.some.inj ex0
  obtain ⟨x1, ex1⟩ := isL_v ha1
  obtain rfl : w1 = (.long x1) := Option.some.inj ex1
  obtain ⟨x2, ex2⟩ := isL_v ha2
  obtain rfl : w2 = (.long x2) := Option.some.inj ex2
  obtain ⟨x3, ex3⟩ := isL_v ha3
  obtain rfl : w3 = (.long x3) := Option.some.inj ex3
  obtain ⟨x4, ex4⟩ := isL_v ha4
  obtain rfl : w4 = (.long x4) := Option.some.inj ex4
  obtain ⟨x5, ex5⟩ := isL_v hr4
  obtain rfl : w5 = (.long x5) := Option.some.inj ex5
  obtain ⟨n, o, h1, h2, h3, _, L, rfl, ⟨rfl, N⟩, hq⟩ := own_law l s _ hw tables_1 x0 x1 x2 x3 x4 x5  s.heap s.heap.size (Nat.le_refl _)  p e ha hc hk s m _ below hf ((Spec.applies_iff_loose hf).mp happ).1 ⟨rfl, State.Warmed39.refl s, rfl⟩ trivial
  refine ⟨n, _, h1, h2, h3, hpost _ _ _ _ _ _ ⟨Cond.after_iff.mpr rfl, Cond.after_iff.mpr (eq_i res_at (Term.int_eval (1)) rfl), trivial⟩ ⟨hq.1, hq.2.1, hq.2.2.1, (hq.2.2.2.sift fun y hy => Or.inr (N y hy)).mono (by decide) (by decide)⟩⟩
theorem main_1_1 : Claimed_1_1 := own_comes fun _ _ _ _ _ _ h hF => ⟨h.1, hF⟩
theorem main_1_2 : Claimed_1_2 := own_comes fun _ _ _ _ _ _ h hF => ⟨h.2.1, hF⟩
end Jvm.Pilot.@@N@@
namespace Jvm.Pilot.@@N@@
open Jvm Jvm.ClassFile Sem Op Lib Jvm.Free Jvm.Stand Jvm.Pilot.@@N@@.Jvm.D
/-! MADE BY PROGRAM (witnessworld.py) out of the Statement's table words and the real class files: 16 classes; the members and pool entries that the words name. The judged class is class 1, her method 3. -/
namespace start1
open Jvm.ClassFile
def u (s : String) : CpInfo := .utf8 (stringToUtf16 s)
/-- a pool by its gaps: so many unusable entries, then the entry; so many at the end -/
def gap : Nat → List CpInfo → List CpInfo
  | 0, r => r
  | n + 1, r => .unusable :: gap n r
def poolList (es : List (Nat × CpInfo)) (last : Nat) : List CpInfo := es.foldr (fun e r => gap e.1 (e.2 :: r)) (gap last [])
def pool (es : List (Nat × CpInfo)) (last : Nat) : Array CpInfo := ⟨poolList es last⟩
def fileOf (pool : Array CpInfo) (this : Nat) (attrs : Array Attribute := #[]) (ms : Array MethodInfo := #[]) (fl : Nat := 33) (sup : Nat := 0) (ifs : Array Nat := #[]) (fds : Array FieldInfo := #[]) : ClassFile where
  minorVersion := 0
  majorVersion := 65
  constantPool := pool
  accessFlags := fl
  thisClass := this
  superClass := sup
  interfaces := ifs
  fields := fds
  methods := ms
  attributes := attrs
def plain (name : String) (sup : Option ClassId) : Class where
  name := name
  kind := .ordinary
  loader := none
  accessFlags := 33
  super := sup
  interfaces := #[]
  cf := none
  fields := #[]
  methods := #[]
  instanceTypes := #[]
  staticTypes := #[]
  resolved := #[]
  callSites := []
  init := .initialized
  statics := none
  mirror := none

def pool0 : Array CpInfo := pool [(5, u "<init>"), (0, u "()V"), (1, .class_ 10), (1, u "java/lang/Object")] 113

def k0c0 : Code := { maxStack := 0, maxLocals := 1, code := object_method_1_code, exceptionTable := #[], attributes := #[] }
def k0m0 : Method := { name := "<init>", desc := "()V", sig := { parameters := [], returnType := none }, accessFlags := 1, code := some k0c0 }
/-- java/lang/Object -/
def k0 : Class := { plain "java/lang/Object" none with
  accessFlags := 33
  interfaces := #[]
  cf := some (fileOf pool0 8 #[] #[{ accessFlags := 1, nameIndex := 5, descriptorIndex := 6, attributes := #[] }] 33 0 #[] #[])
  fields := #[]
  methods := #[k0m0]
  instanceTypes := #[]
  staticTypes := #[]
  resolved := Array.replicate 124 none
  statics := none }

def pool1 : Array CpInfo := pool [(2, .class_ 4), (1, u "java/lang/Object"), (0, u "<init>"), (0, u "()V"), (0, .methodref 8 9), (0, .class_ 10), (0, .nameAndType 11 12), (0, u "java/lang/Math"), (0, u "min"), (0, u "(JJ)J"), (0, .methodref 8 14), (0, .nameAndType 15 12), (0, u "max"), (0, .methodref 17 18), (0, .class_ 19), (0, .nameAndType 20 21), (0, u "com/example/piastrella/piastrella/tiles/TileMatrixLimitsContainsPinLaw"), (0, u "in"), (0, u "(JJJ)Z"), (0, .class_ 23), (0, u "com/example/piastrella/piastrella/tiles/TileMatrixLimits"), (0, .string 25), (0, u "m"), (0, .methodref 22 27), (0, .nameAndType 5 28), (0, u "(Ljava/lang/String;JJJJ)V"), (0, .methodref 22 30), (0, .nameAndType 31 32), (0, u "contains"), (0, u "(JJ)Z"), (0, .methodref 17 34), (0, .nameAndType 35 36), (0, u "ref"), (0, u "(JJJJJJ)Z"), (3, u "law")] 2

def k1m0 : Method := { name := "<init>", desc := "()V", sig := { parameters := [], returnType := none }, accessFlags := 1, code := none }
def k1c1 : Code := { maxStack := 6, maxLocals := 6, code := method_2_code, exceptionTable := #[], attributes := #[] }
def k1m1 : Method := { name := "in", desc := "(JJJ)Z", sig := { parameters := [.long, .long, .long], returnType := some .boolean }, accessFlags := 10, code := some k1c1 }
def k1c2 : Code := { maxStack := 6, maxLocals := 12, code := method_3_code, exceptionTable := #[], attributes := #[] }
def k1m2 : Method := { name := "ref", desc := "(JJJJJJ)Z", sig := { parameters := [.long, .long, .long, .long, .long, .long], returnType := some .boolean }, accessFlags := 10, code := some k1c2 }
def k1c3 : Code := { maxStack := 13, maxLocals := 14, code := code, exceptionTable := #[], attributes := #[] }
def k1m3 : Method := { name := "law", desc := "(JJJJJJ)Z", sig := { parameters := [.long, .long, .long, .long, .long, .long], returnType := some .boolean }, accessFlags := 9, code := some k1c3 }
/-- com/example/piastrella/piastrella/tiles/TileMatrixLimitsContainsPinLaw -/
def k1 : Class := { plain "com/example/piastrella/piastrella/tiles/TileMatrixLimitsContainsPinLaw" (some 0) with
  accessFlags := 49
  interfaces := #[]
  cf := some (fileOf pool1 17 #[] #[{ accessFlags := 1, nameIndex := 5, descriptorIndex := 6, attributes := #[] }, { accessFlags := 10, nameIndex := 20, descriptorIndex := 21, attributes := #[] }, { accessFlags := 10, nameIndex := 35, descriptorIndex := 36, attributes := #[] }, { accessFlags := 9, nameIndex := 40, descriptorIndex := 36, attributes := #[] }] 49 2 #[] #[])
  fields := #[]
  methods := #[k1m0, k1m1, k1m2, k1m3]
  instanceTypes := #[]
  staticTypes := #[]
  resolved := Array.replicate 43 none
  statics := none }

def pool2 : Array CpInfo := pool [(1, .methodref 2 3), (0, .class_ 4), (0, .nameAndType 5 6), (0, u "java/lang/Object"), (0, u "<init>"), (0, u "()V"), (0, .class_ 8), (0, u "java/lang/Record")] 13

def k2c0 : Code := { maxStack := 1, maxLocals := 1, code := jdk_30_method_1_code, exceptionTable := #[], attributes := #[] }
def k2m0 : Method := { name := "<init>", desc := "()V", sig := { parameters := [], returnType := none }, accessFlags := 4, code := some k2c0 }
/-- java/lang/Record -/
def k2 : Class := { plain "java/lang/Record" (some 0) with
  accessFlags := 1057
  interfaces := #[]
  cf := some (fileOf pool2 7 #[] #[{ accessFlags := 4, nameIndex := 5, descriptorIndex := 6, attributes := #[] }] 1057 2 #[] #[])
  fields := #[]
  methods := #[k2m0]
  instanceTypes := #[]
  staticTypes := #[]
  resolved := Array.replicate 22 none
  statics := none }

def pool3 : Array CpInfo := pool [(1, .methodref 2 3), (0, .class_ 4), (0, .nameAndType 5 6), (0, u "java/lang/Record"), (0, u "<init>"), (0, u "()V"), (0, .fieldref 8 9), (0, .class_ 10), (0, .nameAndType 11 12), (0, u "com/example/piastrella/piastrella/tiles/TileMatrixLimits"), (0, u "tileMatrix"), (0, u "Ljava/lang/String;"), (0, .fieldref 8 14), (0, .nameAndType 15 16), (0, u "minTileRow"), (0, u "J"), (0, .fieldref 8 18), (0, .nameAndType 19 16), (0, u "maxTileRow"), (0, .fieldref 8 21), (0, .nameAndType 22 16), (0, u "minTileCol"), (0, .fieldref 8 24), (0, .nameAndType 25 16), (0, u "maxTileCol"), (12, u "(Ljava/lang/String;JJJJ)V"), (3, u "contains"), (0, u "(JJ)Z")] 29

def k3c0 : Code := { maxStack := 3, maxLocals := 10, code := prog_9_method_1_code, exceptionTable := #[], attributes := #[] }
def k3m0 : Method := { name := "<init>", desc := "(Ljava/lang/String;JJJJ)V", sig := { parameters := [(.object "java/lang/String"), .long, .long, .long, .long], returnType := none }, accessFlags := 1, code := some k3c0 }
def k3c1 : Code := { maxStack := 4, maxLocals := 5, code := prog_9_method_2_code, exceptionTable := #[], attributes := #[] }
def k3m1 : Method := { name := "contains", desc := "(JJ)Z", sig := { parameters := [.long, .long], returnType := some .boolean }, accessFlags := 1, code := some k3c1 }
/-- com/example/piastrella/piastrella/tiles/TileMatrixLimits -/
def k3 : Class := { plain "com/example/piastrella/piastrella/tiles/TileMatrixLimits" (some 2) with
  accessFlags := 49
  interfaces := #[]
  cf := some (fileOf pool3 8 #[] #[{ accessFlags := 1, nameIndex := 5, descriptorIndex := 38, attributes := #[] }, { accessFlags := 1, nameIndex := 42, descriptorIndex := 43, attributes := #[] }] 49 2 #[] #[{ accessFlags := 18, nameIndex := 11, descriptorIndex := 12, attributes := #[] }, { accessFlags := 18, nameIndex := 15, descriptorIndex := 16, attributes := #[] }, { accessFlags := 18, nameIndex := 19, descriptorIndex := 16, attributes := #[] }, { accessFlags := 18, nameIndex := 22, descriptorIndex := 16, attributes := #[] }, { accessFlags := 18, nameIndex := 25, descriptorIndex := 16, attributes := #[] }])
  fields := #[{ name := "tileMatrix", type := (.object "java/lang/String"), accessFlags := 18, slot := 0, constantValue := 0 }, { name := "minTileRow", type := .long, accessFlags := 18, slot := 1, constantValue := 0 }, { name := "maxTileRow", type := .long, accessFlags := 18, slot := 2, constantValue := 0 }, { name := "minTileCol", type := .long, accessFlags := 18, slot := 3, constantValue := 0 }, { name := "maxTileCol", type := .long, accessFlags := 18, slot := 4, constantValue := 0 }]
  methods := #[k3m0, k3m1]
  instanceTypes := #[(.object "java/lang/String"), .long, .long, .long, .long]
  staticTypes := #[]
  resolved := Array.replicate 73 none
  statics := none }

def pool4 : Array CpInfo := pool [(1, .class_ 2), (0, u "java/io/Serializable"), (0, .class_ 4), (0, u "java/lang/Object")] 2

/-- java/io/Serializable -/
def k4 : Class := { plain "java/io/Serializable" (some 0) with
  accessFlags := 1537
  interfaces := #[]
  cf := some (fileOf pool4 1 #[] #[] 1537 3 #[] #[])
  fields := #[]
  methods := #[]
  instanceTypes := #[]
  staticTypes := #[]
  resolved := Array.replicate 7 none
  statics := none }

def pool5 : Array CpInfo := pool [(1, .class_ 2), (0, u "java/lang/Comparable"), (0, .class_ 4), (0, u "java/lang/Object")] 7

/-- java/lang/Comparable -/
def k5 : Class := { plain "java/lang/Comparable" (some 0) with
  accessFlags := 1537
  interfaces := #[]
  cf := some (fileOf pool5 1 #[] #[] 1537 3 #[] #[])
  fields := #[]
  methods := #[]
  instanceTypes := #[]
  staticTypes := #[]
  resolved := Array.replicate 12 none
  statics := none }

def pool6 : Array CpInfo := pool [(2, .class_ 4), (1, u "java/lang/CharSequence"), (42, .class_ 48), (0, u "java/lang/CharSequence$1CodePointIterator"), (10, .class_ 60), (0, u "java/lang/CharSequence$1CharIterator"), (5, .class_ 67), (0, u "java/lang/Object")] 63

/-- java/lang/CharSequence -/
def k6 : Class := { plain "java/lang/CharSequence" (some 0) with
  accessFlags := 1537
  interfaces := #[]
  cf := some (fileOf pool6 2 #[.nestMembers #[47, 59]] #[] 1537 66 #[] #[])
  fields := #[]
  methods := #[]
  instanceTypes := #[]
  staticTypes := #[]
  resolved := Array.replicate 131 none
  statics := none }

def pool7 : Array CpInfo := pool [(1, .class_ 2), (0, u "java/lang/constant/Constable"), (0, .class_ 4), (0, u "java/lang/Object")] 6

/-- java/lang/constant/Constable -/
def k7 : Class := { plain "java/lang/constant/Constable" (some 0) with
  accessFlags := 1537
  interfaces := #[]
  cf := some (fileOf pool7 1 #[] #[] 1537 3 #[] #[])
  fields := #[]
  methods := #[]
  instanceTypes := #[]
  staticTypes := #[]
  resolved := Array.replicate 11 none
  statics := none }

def pool8 : Array CpInfo := pool [(1, .class_ 2), (0, u "java/lang/constant/ConstantDesc"), (0, .class_ 4), (0, u "java/lang/Object")] 32

/-- java/lang/constant/ConstantDesc -/
def k8 : Class := { plain "java/lang/constant/ConstantDesc" (some 0) with
  accessFlags := 1537
  interfaces := #[]
  cf := some (fileOf pool8 1 #[] #[] 1537 3 #[] #[])
  fields := #[]
  methods := #[]
  instanceTypes := #[]
  staticTypes := #[]
  resolved := Array.replicate 37 none
  statics := none }

def pool9 : Array CpInfo := pool [(2, .class_ 4), (1, u "java/lang/Object"), (0, u "<init>"), (0, u "()V"), (3, .class_ 12), (1, u "java/lang/String"), (0, u "value"), (0, u "[B"), (2, u "coder"), (0, u "B"), (2, u "hash"), (0, u "I"), (2, u "hashIsZero"), (0, u "Z"), (13, u "COMPACT_STRINGS"), (534, .class_ 576), (0, u "java/lang/CharSequence"), (22, u "CASE_INSENSITIVE_ORDER"), (0, u "Ljava/util/Comparator;"), (500, u "serialPersistentFields"), (0, u "[Ljava/io/ObjectStreamField;"), (0, .class_ 1104), (0, u "java/lang/String$CaseInsensitiveComparator"), (1, .class_ 1107), (0, u "java/io/Serializable"), (0, .class_ 1109), (0, u "java/lang/Comparable"), (0, .class_ 1111), (0, u "java/lang/constant/Constable"), (0, .class_ 1113), (0, u "java/lang/constant/ConstantDesc"), (2, u "serialVersionUID"), (0, u "J"), (3, u "REPL"), (0, u "C"), (2, u "LATIN1"), (1, u "UTF16")] 323

def k9m0 : Method := { name := "<init>", desc := "()V", sig := { parameters := [], returnType := none }, accessFlags := 1, code := none }
/-- java/lang/String -/
def k9 : Class := { plain "java/lang/String" (some 0) with
  accessFlags := 49
  interfaces := #[4, 5, 6, 7, 8]
  cf := some (fileOf pool9 10 #[.nestMembers #[1103]] #[{ accessFlags := 1, nameIndex := 5, descriptorIndex := 6, attributes := #[] }] 49 2 #[1106, 1108, 575, 1110, 1112] #[{ accessFlags := 18, nameIndex := 13, descriptorIndex := 14, attributes := #[] }, { accessFlags := 18, nameIndex := 17, descriptorIndex := 18, attributes := #[] }, { accessFlags := 2, nameIndex := 21, descriptorIndex := 22, attributes := #[] }, { accessFlags := 2, nameIndex := 25, descriptorIndex := 26, attributes := #[] }, { accessFlags := 26, nameIndex := 1116, descriptorIndex := 1117, attributes := #[] }, { accessFlags := 24, nameIndex := 40, descriptorIndex := 26, attributes := #[] }, { accessFlags := 26, nameIndex := 1101, descriptorIndex := 1102, attributes := #[] }, { accessFlags := 26, nameIndex := 1121, descriptorIndex := 1122, attributes := #[] }, { accessFlags := 25, nameIndex := 599, descriptorIndex := 600, attributes := #[] }, { accessFlags := 24, nameIndex := 1125, descriptorIndex := 18, attributes := #[] }, { accessFlags := 24, nameIndex := 1127, descriptorIndex := 18, attributes := #[] }])
  fields := #[{ name := "value", type := (.array .byte), accessFlags := 18, slot := 0, constantValue := 0 }, { name := "coder", type := .byte, accessFlags := 18, slot := 1, constantValue := 0 }, { name := "hash", type := .int, accessFlags := 2, slot := 2, constantValue := 0 }, { name := "hashIsZero", type := .boolean, accessFlags := 2, slot := 3, constantValue := 0 }, { name := "serialVersionUID", type := .long, accessFlags := 26, slot := 0, constantValue := 0 }, { name := "COMPACT_STRINGS", type := .boolean, accessFlags := 24, slot := 1, constantValue := 0 }, { name := "serialPersistentFields", type := (.array (.object "java/io/ObjectStreamField")), accessFlags := 26, slot := 2, constantValue := 0 }, { name := "REPL", type := .char, accessFlags := 26, slot := 3, constantValue := 0 }, { name := "CASE_INSENSITIVE_ORDER", type := (.object "java/util/Comparator"), accessFlags := 25, slot := 4, constantValue := 0 }, { name := "LATIN1", type := .byte, accessFlags := 24, slot := 5, constantValue := 0 }, { name := "UTF16", type := .byte, accessFlags := 24, slot := 6, constantValue := 0 }]
  methods := #[k9m0]
  instanceTypes := #[(.array .byte), .byte, .int, .boolean]
  staticTypes := #[.long, .boolean, (.array (.object "java/io/ObjectStreamField")), .char, (.object "java/util/Comparator"), .byte, .byte]
  resolved := Array.replicate 1451 none
  statics := none }

def pool10 : Array CpInfo := pool [(1, .class_ 2), (0, u "java/lang/Math"), (1, .class_ 6), (1, u "java/lang/Object"), (0, u "<init>"), (0, u "()V"), (89, .class_ 100), (1, u "java/lang/Math$RandomNumberGeneratorHolder"), (20, u "(JJ)J"), (50, u "negativeZeroFloatBits"), (0, u "J"), (2, u "negativeZeroDoubleBits"), (21, u "max"), (2, u "min"), (43, u "$assertionsDisabled"), (0, u "Z"), (91, u "twoToTheDoubleScaleDown"), (0, u "D"), (4, u "twoToTheDoubleScaleUp"), (9, u "E"), (3, u "PI"), (2, u "TAU"), (2, u "DEGREES_TO_RADIANS"), (0, u "RADIANS_TO_DEGREES")] 94

def k10m0 : Method := { name := "<init>", desc := "()V", sig := { parameters := [], returnType := none }, accessFlags := 2, code := none }
def k10c1 : Code := { maxStack := 4, maxLocals := 4, code := jdk_29_method_66_code, exceptionTable := #[], attributes := #[] }
def k10m1 : Method := { name := "max", desc := "(JJ)J", sig := { parameters := [.long, .long], returnType := some .long }, accessFlags := 9, code := some k10c1 }
def k10c2 : Code := { maxStack := 4, maxLocals := 4, code := jdk_29_method_70_code, exceptionTable := #[], attributes := #[] }
def k10m2 : Method := { name := "min", desc := "(JJ)J", sig := { parameters := [.long, .long], returnType := some .long }, accessFlags := 9, code := some k10c2 }
/-- java/lang/Math -/
def k10 : Class := { plain "java/lang/Math" (some 0) with
  accessFlags := 49
  interfaces := #[]
  cf := some (fileOf pool10 1 #[.nestMembers #[98]] #[{ accessFlags := 2, nameIndex := 7, descriptorIndex := 8, attributes := #[] }, { accessFlags := 9, nameIndex := 198, descriptorIndex := 121, attributes := #[] }, { accessFlags := 9, nameIndex := 201, descriptorIndex := 121, attributes := #[] }] 49 4 #[] #[{ accessFlags := 25, nameIndex := 354, descriptorIndex := 339, attributes := #[] }, { accessFlags := 25, nameIndex := 358, descriptorIndex := 339, attributes := #[] }, { accessFlags := 25, nameIndex := 361, descriptorIndex := 339, attributes := #[] }, { accessFlags := 26, nameIndex := 364, descriptorIndex := 339, attributes := #[] }, { accessFlags := 26, nameIndex := 365, descriptorIndex := 339, attributes := #[] }, { accessFlags := 26, nameIndex := 172, descriptorIndex := 173, attributes := #[] }, { accessFlags := 26, nameIndex := 176, descriptorIndex := 173, attributes := #[] }, { accessFlags := 8, nameIndex := 344, descriptorIndex := 339, attributes := #[] }, { accessFlags := 8, nameIndex := 338, descriptorIndex := 339, attributes := #[] }, { accessFlags := 4120, nameIndex := 245, descriptorIndex := 246, attributes := #[] }])
  fields := #[{ name := "E", type := .double, accessFlags := 25, slot := 0, constantValue := 0 }, { name := "PI", type := .double, accessFlags := 25, slot := 1, constantValue := 0 }, { name := "TAU", type := .double, accessFlags := 25, slot := 2, constantValue := 0 }, { name := "DEGREES_TO_RADIANS", type := .double, accessFlags := 26, slot := 3, constantValue := 0 }, { name := "RADIANS_TO_DEGREES", type := .double, accessFlags := 26, slot := 4, constantValue := 0 }, { name := "negativeZeroFloatBits", type := .long, accessFlags := 26, slot := 5, constantValue := 0 }, { name := "negativeZeroDoubleBits", type := .long, accessFlags := 26, slot := 6, constantValue := 0 }, { name := "twoToTheDoubleScaleUp", type := .double, accessFlags := 8, slot := 7, constantValue := 0 }, { name := "twoToTheDoubleScaleDown", type := .double, accessFlags := 8, slot := 8, constantValue := 0 }, { name := "$assertionsDisabled", type := .boolean, accessFlags := 4120, slot := 9, constantValue := 0 }]
  methods := #[k10m0, k10m1, k10m2]
  instanceTypes := #[]
  staticTypes := #[.double, .double, .double, .double, .double, .long, .long, .double, .double, .boolean]
  resolved := Array.replicate 460 none
  statics := none }

def pool11 : Array CpInfo := pool [(1, u "java/lang/Cloneable"), (0, .class_ 1), (0, u "java/lang/Object"), (0, .class_ 3)] 3

/-- java/lang/Cloneable -/
def k11 : Class := { plain "java/lang/Cloneable" (some 0) with
  accessFlags := 1537
  interfaces := #[]
  cf := some (fileOf pool11 2 #[] #[] 1537 4 #[] #[])
  fields := #[]
  methods := #[]
  instanceTypes := #[]
  staticTypes := #[]
  resolved := Array.replicate 8 none
  statics := none }

/-- the primitive byte -/
def k12 : Class := { plain "byte" none with kind := .primitive 'B', accessFlags := 0x411 }
/-- [B -/
def k13 : Class := { plain "[B" (some 0) with kind := .array 12 .byte, interfaces := #[11, 4], accessFlags := 1041 }

/-- the primitive int -/
def k14 : Class := { plain "int" none with kind := .primitive 'I', accessFlags := 0x411 }
/-- [I -/
def k15 : Class := { plain "[I" (some 0) with kind := .array 14 .int, interfaces := #[11, 4], accessFlags := 1041 }

def heap : Heap := #[]
def classes : Array Class := #[k0, k1, k2, k3, k4, k5, k6, k7, k8, k9, k10, k11, k12, k13, k14, k15]
def interned : List (Array UInt16 × Addr) := []
def slotsUsed : Nat := 0
def theMethod : MethodId := ⟨1, 3⟩
def args0 : Array Value := #[.long 3, .long 4, .long 5, .long 6, .long 7, .long 8]
def aboutOver (below : List Frame) : State where
  vm := { classes := classes, interned := interned.toArray }
  heap := heap
  slotsUsed := slotsUsed
  threads := #[{ frames := .invoking theMethod args0 :: below }]
def below0 : List Frame := [.native { method := ⟨0, 0⟩, args := #[] }]
def about1 : State := aboutOver below0
def p0 : Program := .bare "" "" ""
def e0 : Env := launch0.env 0 0 0
theorem w_frames : about1.frames = Frame.invoking theMethod args0 :: below0 := rfl
set_option maxRecDepth 65536 in
theorem w_args : argsFit about1.vm theMethod args0 = true := by decide +kernel
set_option maxRecDepth 65536 in
theorem w_heap : heapFits about1 = true := by decide +kernel
set_option maxRecDepth 65536 in
theorem w_runnable : about1.curStatus? = some .runnable := by decide +kernel
set_option maxRecDepth 65536 in
theorem w_alone : about1.alone = true := by decide +kernel
set_option maxRecDepth 65536 in
theorem w_named : about1.methodNamed? x = some theMethod := by decide +kernel
set_option maxRecDepth 65536 in
theorem w_hears : about1.hears theMethod below0 = true := by decide +kernel
set_option maxRecDepth 65536 in
theorem w_ripe : about1.ripe theMethod args0 below0 = true := by decide +kernel
theorem w_running : about1.status = .running := rfl
set_option maxRecDepth 65536 in
theorem w_room : about1.hasRoom e0.platform room_1 = true :=
  launch0.hasRoom_least _ room_1 (by decide +kernel) (by decide +kernel) (by decide +kernel) (by decide +kernel) (by decide +kernel) (by decide +kernel)
theorem allAtoms_all (ts : List Jvm.Cond) (a : Array Jvm.Value) (st : Jvm.State) : (allAtoms ts).before a st = ts.all (fun c => c.before a st) := by
  induction ts with
  | nil => rfl
  | cons c t ih =>
    show (Jvm.Cond.and c (allAtoms t)).before a st = _
    rw [Jvm.Cond.before_and, ih, List.all_cons]
def words1 : List Jvm.Cond := Jvm.Cond.code x code maxLocals ret :: tables_1
/-- a 'code' word, met by the world's own term for the bytes: nothing is compared byte by byte -/
theorem code_word {y : MethodName} {bytes : ByteArray} {mx : Nat} {rt : Option FieldType} {a : Array Value} {s : State} {m : MethodId} {meth : Method} {c : Code} (h1 : s.methodNamed? y = some m) (h2 : s.vm.method? m = some meth) (h3 : meth.code = some c) (h4 : c.code = bytes)
    (h5 : (c.maxLocals == mx && c.exceptionTable.isEmpty && decide (c.maxStack ≤ mostOperands) && decide (meth.sig.returnType = rt) && !meth.locks && decide (parseMethodDescriptor y.desc = some meth.sig)) = true) : (Jvm.Cond.code y bytes mx rt).before a s = true := by
  simp only [Bool.and_eq_true, beq_iff_eq, Bool.not_eq_true', decide_eq_true_eq] at h5
  obtain ⟨⟨⟨⟨⟨g1, g2⟩, g3⟩, g4⟩, g5⟩, g6⟩ := h5
  simp [Cond.before, Cond.holds, Cond.value, h1, h2, h3, h4, g1, g2, g3, g4, g5, g6]
def isCode : Jvm.Cond → Bool
  | .code _ _ _ _ => true
  | _ => false
theorem all_split {L : List Jvm.Cond} {P : Jvm.Cond → Bool} (h1 : L.all (fun c => isCode c || P c) = true) (h2 : ∀ c ∈ L.filter isCode, P c = true) : L.all P = true := by
  refine List.all_eq_true.mpr fun c hc => ?_
  have h := List.all_eq_true.mp h1 c hc
  rcases Bool.eq_false_or_eq_true (isCode c) with hi | hi
  · exact h2 c (List.mem_filter.mpr ⟨hc, hi⟩)
  · simpa [hi] using h
set_option maxRecDepth 65536 in
theorem w_c0 : (Jvm.Cond.code x code maxLocals ret).before args0 about1 = true := code_word (m := ⟨1, 3⟩) (meth := k1m3) (c := k1c3) (by decide +kernel) rfl rfl rfl (by decide +kernel)
set_option maxRecDepth 65536 in
theorem w_c1 : (Jvm.Cond.code ({ cls := "com/example/piastrella/piastrella/tiles/TileMatrixLimits", name := "<init>", desc := "(Ljava/lang/String;JJJJ)V" } : Jvm.MethodName) prog_9_method_1_code (10 : Nat) (Option.none : Option Jvm.ClassFile.FieldType)).before args0 about1 = true := code_word (m := ⟨3, 0⟩) (meth := k3m0) (c := k3c0) (by decide +kernel) rfl rfl rfl (by decide +kernel)
set_option maxRecDepth 65536 in
theorem w_c2 : (Jvm.Cond.code ({ cls := "java/lang/Record", name := "<init>", desc := "()V" } : Jvm.MethodName) jdk_30_method_1_code (1 : Nat) (Option.none : Option Jvm.ClassFile.FieldType)).before args0 about1 = true := code_word (m := ⟨2, 0⟩) (meth := k2m0) (c := k2c0) (by decide +kernel) rfl rfl rfl (by decide +kernel)
set_option maxRecDepth 65536 in
theorem w_c3 : (Jvm.Cond.code ({ cls := "java/lang/Object", name := "<init>", desc := "()V" } : Jvm.MethodName) object_method_1_code (1 : Nat) (Option.none : Option Jvm.ClassFile.FieldType)).before args0 about1 = true := code_word (m := ⟨0, 0⟩) (meth := k0m0) (c := k0c0) (by decide +kernel) rfl rfl rfl (by decide +kernel)
set_option maxRecDepth 65536 in
theorem w_c4 : (Jvm.Cond.code ({ cls := "com/example/piastrella/piastrella/tiles/TileMatrixLimits", name := "contains", desc := "(JJ)Z" } : Jvm.MethodName) prog_9_method_2_code (5 : Nat) (Option.some Jvm.ClassFile.FieldType.boolean)).before args0 about1 = true := code_word (m := ⟨3, 1⟩) (meth := k3m1) (c := k3c1) (by decide +kernel) rfl rfl rfl (by decide +kernel)
set_option maxRecDepth 65536 in
theorem w_c5 : (Jvm.Cond.code ({ cls := "com/example/piastrella/piastrella/tiles/TileMatrixLimitsContainsPinLaw", name := "ref", desc := "(JJJJJJ)Z" } : Jvm.MethodName) method_3_code (12 : Nat) (Option.some Jvm.ClassFile.FieldType.boolean)).before args0 about1 = true := code_word (m := ⟨1, 2⟩) (meth := k1m2) (c := k1c2) (by decide +kernel) rfl rfl rfl (by decide +kernel)
set_option maxRecDepth 65536 in
theorem w_c6 : (Jvm.Cond.code ({ cls := "com/example/piastrella/piastrella/tiles/TileMatrixLimitsContainsPinLaw", name := "in", desc := "(JJJ)Z" } : Jvm.MethodName) method_2_code (6 : Nat) (Option.some Jvm.ClassFile.FieldType.boolean)).before args0 about1 = true := code_word (m := ⟨1, 1⟩) (meth := k1m1) (c := k1c1) (by decide +kernel) rfl rfl rfl (by decide +kernel)
set_option maxRecDepth 65536 in
theorem w_c7 : (Jvm.Cond.code ({ cls := "java/lang/Math", name := "min", desc := "(JJ)J" } : Jvm.MethodName) jdk_29_method_70_code (4 : Nat) (Option.some Jvm.ClassFile.FieldType.long)).before args0 about1 = true := code_word (m := ⟨10, 2⟩) (meth := k10m2) (c := k10c2) (by decide +kernel) rfl rfl rfl (by decide +kernel)
set_option maxRecDepth 65536 in
theorem w_c8 : (Jvm.Cond.code ({ cls := "java/lang/Math", name := "max", desc := "(JJ)J" } : Jvm.MethodName) jdk_29_method_66_code (4 : Nat) (Option.some Jvm.ClassFile.FieldType.long)).before args0 about1 = true := code_word (m := ⟨10, 1⟩) (meth := k10m1) (c := k10c1) (by decide +kernel) rfl rfl rfl (by decide +kernel)
def codes1 : List Jvm.Cond := [Jvm.Cond.code x code maxLocals ret, Jvm.Cond.code ({ cls := "com/example/piastrella/piastrella/tiles/TileMatrixLimits", name := "<init>", desc := "(Ljava/lang/String;JJJJ)V" } : Jvm.MethodName) prog_9_method_1_code (10 : Nat) (Option.none : Option Jvm.ClassFile.FieldType), Jvm.Cond.code ({ cls := "java/lang/Record", name := "<init>", desc := "()V" } : Jvm.MethodName) jdk_30_method_1_code (1 : Nat) (Option.none : Option Jvm.ClassFile.FieldType), Jvm.Cond.code ({ cls := "java/lang/Object", name := "<init>", desc := "()V" } : Jvm.MethodName) object_method_1_code (1 : Nat) (Option.none : Option Jvm.ClassFile.FieldType), Jvm.Cond.code ({ cls := "com/example/piastrella/piastrella/tiles/TileMatrixLimits", name := "contains", desc := "(JJ)Z" } : Jvm.MethodName) prog_9_method_2_code (5 : Nat) (Option.some Jvm.ClassFile.FieldType.boolean), Jvm.Cond.code ({ cls := "com/example/piastrella/piastrella/tiles/TileMatrixLimitsContainsPinLaw", name := "ref", desc := "(JJJJJJ)Z" } : Jvm.MethodName) method_3_code (12 : Nat) (Option.some Jvm.ClassFile.FieldType.boolean), Jvm.Cond.code ({ cls := "com/example/piastrella/piastrella/tiles/TileMatrixLimitsContainsPinLaw", name := "in", desc := "(JJJ)Z" } : Jvm.MethodName) method_2_code (6 : Nat) (Option.some Jvm.ClassFile.FieldType.boolean), Jvm.Cond.code ({ cls := "java/lang/Math", name := "min", desc := "(JJ)J" } : Jvm.MethodName) jdk_29_method_70_code (4 : Nat) (Option.some Jvm.ClassFile.FieldType.long), Jvm.Cond.code ({ cls := "java/lang/Math", name := "max", desc := "(JJ)J" } : Jvm.MethodName) jdk_29_method_66_code (4 : Nat) (Option.some Jvm.ClassFile.FieldType.long)]
set_option maxRecDepth 65536 in
theorem codes_eq : words1.filter isCode = codes1 := rfl
theorem w_codes : ∀ c ∈ words1.filter isCode, c.before args0 about1 = true := by
  rw [codes_eq]
  intro c hc
  simp only [codes1, List.mem_cons, List.not_mem_nil, or_false] at hc
  rcases hc with rfl | rfl | rfl | rfl | rfl | rfl | rfl | rfl | rfl
  · exact w_c0
  · exact w_c1
  · exact w_c2
  · exact w_c3
  · exact w_c4
  · exact w_c5
  · exact w_c6
  · exact w_c7
  · exact w_c8
set_option maxRecDepth 65536 in
theorem w_t1 : (words1.take 24).all (fun c => isCode c || c.before args0 about1) = true := by decide +kernel
set_option maxRecDepth 65536 in
theorem w_t2 : ((words1.drop 24).take 24).all (fun c => isCode c || c.before args0 about1) = true := by decide +kernel
set_option maxRecDepth 65536 in
theorem w_t3 : ((words1.drop 24).drop 24).all (fun c => isCode c || c.before args0 about1) = true := by decide +kernel
theorem w_tables : (allAtoms (Jvm.Cond.code x code maxLocals ret :: tables_1)).before args0 about1 = true := by
  rw [allAtoms_all]
  show words1.all (fun c => c.before args0 about1) = true
  refine all_split ?_ w_codes
  rw [← List.take_append_drop 24 words1, List.all_append, w_t1, ← List.take_append_drop 24 (words1.drop 24), List.all_append, w_t2, w_t3]
  rfl
set_option maxRecDepth 65536 in
theorem w_case : (Jvm.Cond.and given_1 narrow_1).before args0 about1 = true := by decide +kernel
theorem w_applies : (headSpec (Jvm.Cond.code x code maxLocals ret :: tables_1) room_1).applies x e0.platform about1 = true :=
  (Spec.applies_iff w_frames).mpr ⟨w_running, w_runnable, w_alone, w_named, w_hears, w_ripe, w_room, w_tables⟩
theorem atStart : AtStart classFile x code maxLocals ret World_1 tables_1 room_1 Calls_1 rest_1 Pre_1 launch0 p0 e0 about1 theMethod args0 below0 :=
  ⟨lists_1, trivial, launch0.admits_env _ _ _, launch0.least_env, fairChoices_fair.cas, fairChoices_fair.clock, w_frames, w_args, w_heap, w_applies, trivial, trivial, w_case⟩
end start1
theorem witness_1 : WitnessClaimed_1 := ⟨start1.p0, start1.e0, start1.about1, start1.theMethod, start1.args0, start1.below0, start1.atStart⟩
end Jvm.Pilot.@@N@@
