import JvmDerived
import JvmDerived.Pilot.@@N@@Statement
import JvmDerived.Pilot.@@N@@Code
set_option linter.unusedVariables false
set_option linter.unusedSimpArgs false
namespace Jvm.Pilot.@@N@@
open Jvm Jvm.ClassFile Sem Op Lib Jvm.Free Jvm.Stand Jvm.LawKit Jvm.RoadKit Bundle Jvm.Pilot.@@N@@.Jvm.D
abbrev sF (T : State) (m : MethodId) (pc : Nat) (Ls : Array Slot) (st : List Value) : State := T.setTop (mkF m pc Ls st)
/-- from F the run goes on to the method's end, and W holds there -/
def Goes (p : Program) (e : Env) (below : List Frame) (W : Outcome → State → Prop) (F : State) : Prop := ∃ s₂ o, Steps p.tables e below F s₂ ∧ s₂.status = .running ∧ Ended s₂ below o ∧ W o s₂
theorem Goes.step {p : Program} {e : Env} {below : List Frame} {W : Outcome → State → Prop} {F F' : State} (g : Goes p e below W F') (h : ∀ t, Steps p.tables e below F' t → Steps p.tables e below F t) : Goes p e below W F := by
  obtain ⟨s₂, o, h1, h2⟩ := g
  exact ⟨s₂, o, h _ h1, h2⟩
section Fin
variable {p : Program} {l : Launch} {e : Env} {R : Room} {s : State} {m : MethodId} {args : Array Value} {below : List Frame} {meth : Method} {c : Code} {T : State} {locs : List Loc} {cells slots : Nat}
theorem own_out (X : Stand p l e R s m args below meth c T locs cells slots) (hx : p.tables.exec = Jvm.exec) (hlk : meth.locks = false) {pc : Nat} {Ls : Array Slot} {w : Value} {t : FieldType} {i : Instr} {rest : List Value} {P : Option Value → Heap → List Loc → Prop} {C N : Nat} (hret : meth.sig.returnType = some t) (hn : narrow t w = w)
    (hi : (i = .ireturn ∧ (t = .int ∨ t = .boolean ∨ t = .byte ∨ t = .char ∨ t = .short) ∧ ∃ z, w = .int z) ∨ (i = .lreturn ∧ t = .long ∧ ∃ z, w = .long z) ∨ (i = .dreturn ∧ t = .double ∧ ∃ z, w = .double z) ∨ (i = .freturn ∧ t = .float ∧ ∃ z, w = .float z) ∨ (i = .areturn ∧ t.isReference = true ∧ w.isRef = true))
    (hd : decode c.code pc = .ok (i, 1)) (hP : P (some w) T.heap locs) (hC : cells ≤ C) (hN : slots ≤ N) :
    Goes p e below (fun o U' => ∃ v L, o = .returned v ∧ P v U'.heap L ∧ FrameEnd s o U' L C N) (T.setTop (mkF m pc Ls (w :: rest))) := by
  obtain ⟨fs, hr, hrun, hended, hW, hsame⟩ := X.leave (v := some w) (fun h => by rw [hret] at h; cases h)
  exact ⟨_, _, retOut X hx hret hn hi hd hr, hrun, hended, _, _, rfl, hP, ⟨_, rfl⟩, hW, hsame.mono hC hN⟩
theorem own_outV (X : Stand p l e R s m args below meth c T locs cells slots) (hx : p.tables.exec = Jvm.exec) (hlk : meth.locks = false) {pc : Nat} {Ls : Array Slot} {P : Option Value → Heap → List Loc → Prop} {C N : Nat} (hret : meth.sig.returnType = none)
    (hd : decode c.code pc = .ok (.return_, 1)) (hP : P none T.heap locs) (hC : cells ≤ C) (hN : slots ≤ N) :
    Goes p e below (fun o U' => ∃ v L, o = .returned v ∧ P v U'.heap L ∧ FrameEnd s o U' L C N) (T.setTop (mkF m pc Ls [])) := by
  obtain ⟨fs, hr, hrun, hended, hW, hsame⟩ := X.leave (v := none) (fun _ => rfl)
  exact ⟨_, _, X.returnOut hx hret hd hr, hrun, hended, _, _, rfl, hP, ⟨_, rfl⟩, hW, hsame.mono hC hN⟩
theorem own_outW {vm₁ : Vm} {n : Nat} (X : Stand p l e R (s.setVm vm₁) m args below meth c T locs cells slots) (hS : s.Since vm₁ n) (hn : n ≤ T.heap.size) (hx : p.tables.exec = Jvm.exec) (hlk : meth.locks = false) {pc : Nat} {Ls : Array Slot} {w : Value} {t : FieldType} {i : Instr} {rest : List Value} {P : Option Value → Heap → List Loc → Prop} {C N : Nat} (hret : meth.sig.returnType = some t) (hnw : narrow t w = w)
    (hi : (i = .ireturn ∧ (t = .int ∨ t = .boolean ∨ t = .byte ∨ t = .char ∨ t = .short) ∧ ∃ z, w = .int z) ∨ (i = .lreturn ∧ t = .long ∧ ∃ z, w = .long z) ∨ (i = .dreturn ∧ t = .double ∧ ∃ z, w = .double z) ∨ (i = .freturn ∧ t = .float ∧ ∃ z, w = .float z) ∨ (i = .areturn ∧ t.isReference = true ∧ w.isRef = true))
    (hd : decode c.code pc = .ok (i, 1)) (hP : P (some w) T.heap locs) (hC : cells ≤ C) (hN : slots ≤ N) :
    Goes p e below (fun o U' => ∃ v L, o = .returned v ∧ P v U'.heap L ∧ ReturnedEndW s o U' L C N) (T.setTop (mkF m pc Ls (w :: rest))) := by
  obtain ⟨fs, hr, hrun, hended, h1, h2, h3, h4⟩ := X.leaveW hS hn (v := some w) (fun h => by rw [hret] at h; cases h)
  exact ⟨_, _, retOut X hx hret hnw hi hd hr, hrun, hended, _, _, rfl, hP, h1, h2, h3, h4.mono hC hN⟩
theorem own_outVW {vm₁ : Vm} {n : Nat} (X : Stand p l e R (s.setVm vm₁) m args below meth c T locs cells slots) (hS : s.Since vm₁ n) (hn : n ≤ T.heap.size) (hx : p.tables.exec = Jvm.exec) (hlk : meth.locks = false) {pc : Nat} {Ls : Array Slot} {P : Option Value → Heap → List Loc → Prop} {C N : Nat} (hret : meth.sig.returnType = none)
    (hd : decode c.code pc = .ok (.return_, 1)) (hP : P none T.heap locs) (hC : cells ≤ C) (hN : slots ≤ N) :
    Goes p e below (fun o U' => ∃ v L, o = .returned v ∧ P v U'.heap L ∧ ReturnedEndW s o U' L C N) (T.setTop (mkF m pc Ls [])) := by
  obtain ⟨fs, hr, hrun, hended, h1, h2, h3, h4⟩ := X.leaveW hS hn (v := none) (fun _ => rfl)
  exact ⟨_, _, X.returnOut hx hret hd hr, hrun, hended, _, _, rfl, hP, h1, h2, h3, h4.mono hC hN⟩
theorem own_lrem {g : JFrame} {target : State} (X : Stand p l e R s m args below meth c T locs cells slots) (hx : p.tables.exec = Jvm.exec) (hg : g.method = m) {x y : Int64} {rest : List Value} (hd : decode c.code g.pc = .ok (.lrem, 1)) (hs : g.stack = .long y :: .long x :: rest) (hy : y ≠ 0)
    (hr : Steps p.tables e below (T.setTop { g with pc := g.pc + 1, stack := .long (x % y) :: rest }) target) : Steps p.tables e below (T.setTop g) target := by
  have q : x - x / y * y = x % y := lrem_mod x y
  exact XS.lrem X.here hx hg hd hs hy (by rw [q]; exact hr)
end Fin
theorem own_ext {h h1 h2 : Heap} {b : Addr} (E : Ext h h1) (K : Keep h1 h2 [b]) (g : h.size ≤ b) : Ext h h2 :=
  ⟨Nat.le_trans E.1 K.1, fun a c q => K.2.1 a c (E.2 a c q) (ninS (Nat.ne_of_lt (Nat.lt_of_lt_of_le (Array.getElem?_eq_some_iff.mp q).1 g)) nin0)⟩
def minV (x y : Int32) : Int32 := if y < x then y else x
theorem ef_rmMin (m : MethodId) (x0 : Int32) (x1 : Int32) : entryFrame m #[(.int x0), (.int x1)] 2 = mkF m 0 #[iv x0, iv x1] [] := by first | (simp [entryFrame, mkF, argsToLocals, Value.category]; done) | rfl
def QMin (r : Int32) (h0 : Heap) (n0 : Nat) (v : Option Value) (h : Heap) (L : List Loc) : Prop := v = some (.int r) ∧ Fr n0 L ∧ h = h0
theorem d5_0 : decode jdk_29_method_69_code 0 = .ok (.iload_n 0, 1) := by decide +kernel
theorem d5_1 : decode jdk_29_method_69_code 1 = .ok (.iload_n 1, 1) := by decide +kernel
theorem d5_2 : decode jdk_29_method_69_code 2 = .ok (.if_icmp .gt 7, 3) := by decide +kernel
theorem d5_9 : decode jdk_29_method_69_code 9 = .ok (.iload_n 1, 1) := by decide +kernel
theorem d5_10 : decode jdk_29_method_69_code 10 = .ok (.ireturn, 1) := by decide +kernel
theorem d5_5 : decode jdk_29_method_69_code 5 = .ok (.iload_n 0, 1) := by decide +kernel
theorem d5_6 : decode jdk_29_method_69_code 6 = .ok (.goto 4, 3) := by decide +kernel
set_option maxRecDepth 65536 in
set_option maxHeartbeats 40000000 in
theorem rmMin (l : Launch) (Z : State) (a0 : Array Value) (hw : ∀ d ∈ tables_1, d.before a0 Z = true) (ws : List Jvm.Cond) (p1 : Int32) (p2 : Int32) (r : Int32) (h0 : Heap) (n0 : Nat) (Z0 : n0 ≤ h0.size) (hr : minV p1 p2 = r) :
    MetFree l (⟨"java/lang/Math", "min", "(II)I"⟩ : MethodName) (head1 (Jvm.Cond.code (⟨"java/lang/Math", "min", "(II)I"⟩ : MethodName) jdk_29_method_69_code 2 (some .int) :: ws) ({ frames := 0, cells := 0, slots := 0, locals := 0 } : Room)) (fun a U => a = #[(.int p1), (.int p2)] ∧ Z.Warmed39 U.vm ∧ U.heap = h0) (fun _ _ _ _ _ => True) (fun _ U o U' => ∃ v L, o = .returned v ∧ QMin r h0 n0 v U'.heap L ∧ FrameEnd U o U' L ({ frames := 0, cells := 0, slots := 0, locals := 0 } : Room).cells ({ frames := 0, cells := 0, slots := 0, locals := 0 } : Room).slots) := by
  refine MetFree.of_bodySF (Jvm.Free.JP.mathPlain rfl (by decide +kernel)) hisR ?_
  intro p e s m args below meth c s₁ Bd hml0 hP hK
  obtain ⟨rfl, hZ, hh⟩ := hP
  have hx := Bd.exec
  have hby := Bd.bytes
  have hlk : meth.locks = false := BodyLoose.notSynchronized Bd
  have hml : c.maxLocals = 2 := hml0
  have hown : s.vm.findClass "java/lang/Math" = some m.cls := findClass_of_methodNamed Bd.named
  have hnm := (name_of_methodNamed Bd.named Bd.method).1
  have X0 : Stand p l e ({ frames := 0, cells := 0, slots := 0, locals := 0 } : Room) s m #[(.int p1), (.int p2)] below meth c s₁ [] 0 0 := Stand.of_body Bd
  have e0 : s₁.heap = h0 := by rw [← hh, Bd.state]; rfl
  have N0 := Fr.nil n0
  have hret := Bd.returns
  show Goes p e below (fun o U' => ∃ v L, o = .returned v ∧ QMin r h0 n0 v U'.heap L ∧ FrameEnd s o U' L ({ frames := 0, cells := 0, slots := 0, locals := 0 } : Room).cells ({ frames := 0, cells := 0, slots := 0, locals := 0 } : Room).slots) (s₁.setTop (entryFrame m #[(.int p1), (.int p2)] 2))
  refine Goes.step ?_ (fun _ k => castTop (ef_rmMin m p1 p2) k)
  show Goes p e below _ (sF s₁ m 0 #[iv p1, iv p2] [])
  refine Goes.step ?_ (fun _ k => XS.iloadN X0.here hx rfl (hb hby d5_0) rfl  k)
  show Goes p e below _ (sF s₁ m 1 #[iv p1, iv p2] [(.int p1)])
  refine Goes.step ?_ (fun _ k => XS.iloadN X0.here hx rfl (hb hby d5_1) rfl  k)
  show Goes p e below _ (sF s₁ m 2 #[iv p1, iv p2] [(.int p2), (.int p1)])
  by_cases hc2_1 : p2 < p1
  · refine Goes.step ?_ (fun _ k => XS.icmpYes X0.here hx rfl (pc0 := 2) (pc' := 9) rfl (hb hby d5_2) rfl (tlt hc2_1).2.2.1 (by decide) (by decide) k)
    show Goes p e below _ (sF s₁ m 9 #[iv p1, iv p2] [])
    refine Goes.step ?_ (fun _ k => XS.iloadN X0.here hx rfl (hb hby d5_9) rfl  k)
    show Goes p e below _ (sF s₁ m 10 #[iv p1, iv p2] [(.int p2)])
    refine own_out X0 hx hlk hret rfl (Or.inl ⟨rfl, by simp, _, rfl⟩) (hb hby d5_10) ?_ (by decide) (by decide)
    show QMin r h0 n0 _ s₁.heap _
    rw [e0]
    exact ⟨by rw [← hr]; simp [minV, hc2_1], N0, rfl⟩
  · refine Goes.step ?_ (fun _ k => XS.icmpNo X0.here hx rfl (hb hby d5_2) rfl (flt hc2_1).2.2.1 k)
    show Goes p e below _ (sF s₁ m 5 #[iv p1, iv p2] [])
    refine Goes.step ?_ (fun _ k => XS.iloadN X0.here hx rfl (hb hby d5_5) rfl  k)
    show Goes p e below _ (sF s₁ m 6 #[iv p1, iv p2] [(.int p1)])
    refine Goes.step ?_ (fun _ k => XS.goto X0.here hx rfl (pc0 := 6) (pc' := 10) rfl (hb hby d5_6) (by decide) (by decide) k)
    show Goes p e below _ (sF s₁ m 10 #[iv p1, iv p2] [(.int p1)])
    refine own_out X0 hx hlk hret rfl (Or.inl ⟨rfl, by simp, _, rfl⟩) (hb hby d5_10) ?_ (by decide) (by decide)
    show QMin r h0 n0 _ s₁.heap _
    rw [e0]
    exact ⟨by rw [← hr]; simp [minV, hc2_1], N0, rfl⟩
def QCp (Z : State) (nl : Int32) (ws : List Value) (h0 : Heap) (n0 : Nat) (v : Option Value) (h : Heap) (L : List Loc) : Prop := ∃ (r : Addr) (kr : ClassId), v = some (.ref r) ∧ Fr n0 L ∧ Ext h0 h ∧ h0.size ≤ r ∧ Arv Z h r kr .int nl ws (.int (0 : Int32)) ∧ Exa Z h r "[I"
theorem pn_java_util_Arrays : plainName "java/util/Arrays" = true := by first | (simp [plainName, overriddenIn]; done) | decide +kernel
theorem ef_cp1_2 (m : MethodId) (x0 : Addr) (x1 : Int32) : entryFrame m #[(.ref x0), (.int x1)] 3 = mkF m 0 #[rv x0, iv x1, .unset] [] := by first | (simp [entryFrame, mkF, argsToLocals, Value.category]; done) | rfl
theorem d4_0 : decode jdk_65_method_123_code 0 = .ok (.iload_n 1, 1) := by decide +kernel
theorem d4_1 : decode jdk_65_method_123_code 1 = .ok (.aload_n 0, 1) := by decide +kernel
theorem d4_2 : decode jdk_65_method_123_code 2 = .ok (.arraylength, 1) := by decide +kernel
theorem d4_3 : decode jdk_65_method_123_code 3 = .ok (.if_icmp .ne 11, 3) := by decide +kernel
theorem d4_14 : decode jdk_65_method_123_code 14 = .ok (.iload_n 1, 1) := by decide +kernel
theorem d4_15 : decode jdk_65_method_123_code 15 = .ok (.newarray .int, 2) := by decide +kernel
theorem d4_17 : decode jdk_65_method_123_code 17 = .ok (.astore_n 2, 1) := by decide +kernel
theorem d4_18 : decode jdk_65_method_123_code 18 = .ok (.aload_n 0, 1) := by decide +kernel
theorem d4_19 : decode jdk_65_method_123_code 19 = .ok (.iconst 0, 1) := by decide +kernel
theorem d4_20 : decode jdk_65_method_123_code 20 = .ok (.aload_n 2, 1) := by decide +kernel
theorem d4_21 : decode jdk_65_method_123_code 21 = .ok (.iconst 0, 1) := by decide +kernel
theorem d4_22 : decode jdk_65_method_123_code 22 = .ok (.aload_n 0, 1) := by decide +kernel
theorem d4_23 : decode jdk_65_method_123_code 23 = .ok (.arraylength, 1) := by decide +kernel
theorem d4_24 : decode jdk_65_method_123_code 24 = .ok (.iload_n 1, 1) := by decide +kernel
theorem pd__28II_29I : parseMethodDescriptor "(II)I" = some ⟨[.int, .int], some .int⟩ := by decide +kernel
theorem d4_25 : decode jdk_65_method_123_code 25 = .ok (.invokestatic 304, 3) := by decide +kernel
theorem d4_28 : decode jdk_65_method_123_code 28 = .ok (.invokestatic 150, 3) := by decide +kernel
theorem d4_31 : decode jdk_65_method_123_code 31 = .ok (.aload_n 2, 1) := by decide +kernel
theorem d4_32 : decode jdk_65_method_123_code 32 = .ok (.areturn, 1) := by decide +kernel
set_option maxRecDepth 65536 in
set_option maxHeartbeats 40000000 in
theorem rmCp1_2 (l : Launch) (Z : State) (a0 : Array Value) (hw : ∀ d ∈ tables_1, d.before a0 Z = true) (ws : List Jvm.Cond) (a1 : Addr) (d0 : Int32) (ka : ClassId) (h0 : Heap) (n0 : Nat) (Z0 : n0 ≤ h0.size) (V_a1 : Arv Z h0 a1 ka .int (1 : Int32) [(.int d0)] (.int (0 : Int32))) :
    MetFree l (⟨"java/util/Arrays", "copyOf", "([II)[I"⟩ : MethodName) (head1 (Jvm.Cond.code (⟨"java/util/Arrays", "copyOf", "([II)[I"⟩ : MethodName) jdk_65_method_123_code 3 (some (.array .int)) :: ws) ({ frames := 1, cells := 1, slots := 4, locals := 18 } : Room)) (fun a U => a = #[(.ref a1), (.int (2 : Int32))] ∧ Z.Warmed39 U.vm ∧ U.heap = h0) (fun _ _ _ _ _ => True) (fun _ U o U' => ∃ v L, o = .returned v ∧ QCp Z (2 : Int32) [(.int d0), (.int (0 : Int32))] h0 n0 v U'.heap L ∧ FrameEnd U o U' L ({ frames := 1, cells := 1, slots := 4, locals := 18 } : Room).cells ({ frames := 1, cells := 1, slots := 4, locals := 18 } : Room).slots) := by
  refine MetFree.of_bodySF (plainFor_of_name pn_java_util_Arrays) hisR ?_
  intro p e s m args below meth c s₁ Bd hml0 hP hK
  obtain ⟨rfl, hZ, hh⟩ := hP
  have hx := Bd.exec
  have hby := Bd.bytes
  have hlk : meth.locks = false := BodyLoose.notSynchronized Bd
  have hml : c.maxLocals = 3 := hml0
  have hown : s.vm.findClass "java/util/Arrays" = some m.cls := findClass_of_methodNamed Bd.named
  have hnm := (name_of_methodNamed Bd.named Bd.method).1
  have X0 : Stand p l e ({ frames := 1, cells := 1, slots := 4, locals := 18 } : Room) s m #[(.ref a1), (.int (2 : Int32))] below meth c s₁ [] 0 0 := Stand.of_body Bd
  have e0 : s₁.heap = h0 := by rw [← hh, Bd.state]; rfl
  have N0 := Fr.nil n0
  have hret := Bd.returns
  show Goes p e below (fun o U' => ∃ v L, o = .returned v ∧ QCp Z (2 : Int32) [(.int d0), (.int (0 : Int32))] h0 n0 v U'.heap L ∧ FrameEnd s o U' L ({ frames := 1, cells := 1, slots := 4, locals := 18 } : Room).cells ({ frames := 1, cells := 1, slots := 4, locals := 18 } : Room).slots) (s₁.setTop (entryFrame m #[(.ref a1), (.int (2 : Int32))] 3))
  refine Goes.step ?_ (fun _ k => castTop (ef_cp1_2 m a1 (2 : Int32)) k)
  show Goes p e below _ (sF s₁ m 0 #[rv a1, iv (2 : Int32), .unset] [])
  refine Goes.step ?_ (fun _ k => XS.iloadN X0.here hx rfl (hb hby d4_0) rfl  k)
  show Goes p e below _ (sF s₁ m 1 #[rv a1, iv (2 : Int32), .unset] [(.int (2 : Int32))])
  refine Goes.step ?_ (fun _ k => XS.aloadN X0.here hx rfl (hb hby d4_1) rfl rfl k)
  show Goes p e below _ (sF s₁ m 2 #[rv a1, iv (2 : Int32), .unset] [(.ref a1), (.int (2 : Int32))])
  obtain ⟨cl1, Ar1, q1, S1, N_1, H1, G1⟩ := id V_a1
  refine Goes.step ?_ (fun _ k => X0.arraylength hx (by rw [e0]; exact Ar1.1) (State.isArrayOf_alike hZ.alike Ar1.2.1) (g := (mkF m 2 #[rv a1, iv (2 : Int32), .unset] [(.ref a1), (.int (2 : Int32))])) rfl rfl (hb hby d4_2) _ k)
  rw [len_of S1 N_1]
  show Goes p e below _ (sF s₁ m 3 #[rv a1, iv (2 : Int32), .unset] [(.int (1 : Int32)), (.int (2 : Int32))])
  refine Goes.step ?_ (fun _ k => XS.icmpYes X0.here hx rfl (pc0 := 3) (pc' := 14) rfl (hb hby d4_3) rfl (feq (by decide : ¬ ((2 : Int32) = (1 : Int32)))).2 (by decide) (by decide) k)
  show Goes p e below _ (sF s₁ m 14 #[rv a1, iv (2 : Int32), .unset] [])
  refine Goes.step ?_ (fun _ k => XS.iloadN X0.here hx rfl (hb hby d4_14) rfl  k)
  show Goes p e below _ (sF s₁ m 15 #[rv a1, iv (2 : Int32), .unset] [(.int (2 : Int32))])
  obtain ⟨T2, h2, k2, X2, e2, E2, A2, B2, st2⟩ := newPE X0 hx hZ (hw _ (List.mem_of_getElem? (i := 0) rfl)) e0 (g := (mkF m 15 #[rv a1, iv (2 : Int32), .unset] [(.int (2 : Int32))])) rfl (hb hby d4_15) rfl (by decide) (cap := 4) (by decide) (by decide) (by decide) (by decide) (ad := "[I") (by decide)
  obtain ⟨b2, g2⟩ : ∃ z, z = h0.size := ⟨_, rfl⟩
  rw [← g2] at A2 B2 st2
  have g_b2 : n0 ≤ b2 := Nat.le_trans Z0 (Nat.le_of_eq g2.symm)
  have ne_a1_b2 : a1 ≠ b2 := Nat.ne_of_lt (Nat.lt_of_lt_of_le V_a1.lt (Nat.le_of_eq g2.symm))
  have Zs2 : n0 ≤ h2.size := Nat.le_trans Z0 E2.1
  refine Goes.step ?_ st2
  have V_b2 : Arv Z h2 b2 k2 .int (2 : Int32) [(.int (0 : Int32)), (.int (0 : Int32))] (.int (0 : Int32)) := (Arv.new A2 (by decide)).pad (pad_rep [] (.int (0 : Int32)) 2)
  show Goes p e below _ (sF T2 m 17 #[rv a1, iv (2 : Int32), .unset] [(.ref b2)])
  refine Goes.step ?_ (fun _ k => XS.astoreN X2.here hx rfl (hb hby d4_17) rfl rfl (l' := #[rv a1, iv (2 : Int32), rv b2]) rfl k)
  show Goes p e below _ (sF T2 m 18 #[rv a1, iv (2 : Int32), rv b2] [])
  refine Goes.step ?_ (fun _ k => XS.aloadN X2.here hx rfl (hb hby d4_18) rfl rfl k)
  show Goes p e below _ (sF T2 m 19 #[rv a1, iv (2 : Int32), rv b2] [(.ref a1)])
  refine Goes.step ?_ (fun _ k => XS.iconst X2.here hx rfl (hb hby d4_19) k)
  show Goes p e below _ (sF T2 m 20 #[rv a1, iv (2 : Int32), rv b2] [(.int (0 : Int32)), (.ref a1)])
  refine Goes.step ?_ (fun _ k => XS.aloadN X2.here hx rfl (hb hby d4_20) rfl rfl k)
  show Goes p e below _ (sF T2 m 21 #[rv a1, iv (2 : Int32), rv b2] [(.ref b2), (.int (0 : Int32)), (.ref a1)])
  refine Goes.step ?_ (fun _ k => XS.iconst X2.here hx rfl (hb hby d4_21) k)
  show Goes p e below _ (sF T2 m 22 #[rv a1, iv (2 : Int32), rv b2] [(.int (0 : Int32)), (.ref b2), (.int (0 : Int32)), (.ref a1)])
  refine Goes.step ?_ (fun _ k => XS.aloadN X2.here hx rfl (hb hby d4_22) rfl rfl k)
  show Goes p e below _ (sF T2 m 23 #[rv a1, iv (2 : Int32), rv b2] [(.ref a1), (.int (0 : Int32)), (.ref b2), (.int (0 : Int32)), (.ref a1)])
  have V_a1_3 := (V_a1.ext E2)
  obtain ⟨cl4, Ar4, q4, S4, N_4, H4, G4⟩ := id V_a1_3
  refine Goes.step ?_ (fun _ k => X2.arraylength hx (by rw [e2]; exact Ar4.1) (State.isArrayOf_alike hZ.alike Ar4.2.1) (g := (mkF m 23 #[rv a1, iv (2 : Int32), rv b2] [(.ref a1), (.int (0 : Int32)), (.ref b2), (.int (0 : Int32)), (.ref a1)])) rfl rfl (hb hby d4_23) _ k)
  rw [len_of S4 N_4]
  show Goes p e below _ (sF T2 m 24 #[rv a1, iv (2 : Int32), rv b2] [(.int (1 : Int32)), (.int (0 : Int32)), (.ref b2), (.int (0 : Int32)), (.ref a1)])
  refine Goes.step ?_ (fun _ k => XS.iloadN X2.here hx rfl (hb hby d4_24) rfl  k)
  show Goes p e below _ (sF T2 m 25 #[rv a1, iv (2 : Int32), rv b2] [(.int (2 : Int32)), (.int (1 : Int32)), (.int (0 : Int32)), (.ref b2), (.int (0 : Int32)), (.ref a1)])
  obtain ⟨_, _, ⟨T5, L5, k5, n5⟩, -, X5, ⟨Lc5, hQ5, l5, y5, z5⟩, st5⟩ := Jvm.LawKit.callS X2 hx (y := (⟨"java/lang/Math", "min", "(II)I"⟩ : MethodName)) hown (mvT hZ (hw _ (List.mem_of_getElem? (i := 25) rfl))) (mvT hZ (hw _ (List.mem_of_getElem? (i := 26) rfl))) (mvT hZ (hw _ (List.mem_of_getElem? (i := 27) rfl))) (mvT hZ (hw _ (List.mem_of_getElem? (i := 28) rfl))) (by decide) (backOf (W := 4) (rmMin l Z a0 hw [] (1 : Int32) (2 : Int32) (1 : Int32) h2 n0 Zs2 (by decide)) hZ (hw _ (List.mem_of_getElem? (i := 28) rfl)) (hw _ (List.mem_of_getElem? (i := 27) rfl)) (by decide) (by decide)) (g := (mkF m 25 #[rv a1, iv (2 : Int32), rv b2] [(.int (2 : Int32)), (.int (1 : Int32)), (.int (0 : Int32)), (.ref b2), (.int (0 : Int32)), (.ref a1)])) rfl (by rw [hml]; rfl) (argsL := [(.int (1 : Int32)), (.int (2 : Int32))]) (rest := [(.int (0 : Int32)), (.ref b2), (.int (0 : Int32)), (.ref a1)]) (lenOf pd__28II_29I rfl) rfl (by show 2 * 0 + _ ≤ _; exact Nat.le_of_eq rfl) (hb hby d4_25) (fun _ _ => ⟨rfl, e2, (by decide : 0 + 1 + 0 ≤ _), (by decide : 0 + 4 + 0 ≤ _)⟩)
  dsimp only [Pt.U, Pt.locs, Pt.cells, Pt.slots] at X5 l5 y5 z5 st5 hQ5
  subst l5 y5 z5
  obtain ⟨rfl, N5q, e5⟩ := hQ5
  have N5 := Fr.app N0 N5q
  refine Goes.step ?_ st5
  show Goes p e below _ (sF T5 m 28 #[rv a1, iv (2 : Int32), rv b2] [(.int (1 : Int32)), (.int (0 : Int32)), (.ref b2), (.int (0 : Int32)), (.ref a1)])
  obtain ⟨T6, h6, L6, X6, e6, N6, K6, Vc6, st6⟩ := cpA X5 hx hZ hown (hw _ (List.mem_of_getElem? (i := 29) rfl)) (hw _ (List.mem_of_getElem? (i := 32) rfl)) (hw _ (List.mem_of_getElem? (i := 30) rfl)) (hw _ (List.mem_of_getElem? (i := 31) rfl)) e5 (us := [(.int d0)]) V_a1_3 V_b2 (Or.inl ⟨rfl, rfl⟩) (by decide) (by decide) (by decide) (by decide) (by decide) rfl (by decide) N5 g_b2 (g := (mkF m 28 #[rv a1, iv (2 : Int32), rv b2] [(.int (1 : Int32)), (.int (0 : Int32)), (.ref b2), (.int (0 : Int32)), (.ref a1)])) rfl (by rw [hml]; rfl) rfl (hb hby d4_28) (by decide) (W := 0) (by show 2 * 0 + _ ≤ _; exact Nat.le_of_eq rfl) (by decide)
  have V_6 : Arv Z h6 b2 k2 .int (2 : Int32) [(.int d0), (.int (0 : Int32))] (.int (0 : Int32)) := Vc6
  refine Goes.step ?_ st6
  show Goes p e below _ (sF T6 m 31 #[rv a1, iv (2 : Int32), rv b2] [])
  refine Goes.step ?_ (fun _ k => XS.aloadN X6.here hx rfl (hb hby d4_31) rfl rfl k)
  show Goes p e below _ (sF T6 m 32 #[rv a1, iv (2 : Int32), rv b2] [(.ref b2)])
  refine own_out X6 hx hlk hret rfl (Or.inr (Or.inr (Or.inr (Or.inr ⟨rfl, rfl, rfl⟩)))) (hb hby d4_32) ?_ (by decide) (by decide)
  show QCp Z (2 : Int32) [(.int d0), (.int (0 : Int32))] h0 n0 _ T6.heap _
  rw [e6]
  exact ⟨b2, k2, rfl, N6, own_ext E2 K6 (Nat.le_of_eq g2.symm), Nat.le_of_eq g2.symm, V_6, B2.keep K6⟩
theorem ef_cp2_4 (m : MethodId) (x0 : Addr) (x1 : Int32) : entryFrame m #[(.ref x0), (.int x1)] 3 = mkF m 0 #[rv x0, iv x1, .unset] [] := by first | (simp [entryFrame, mkF, argsToLocals, Value.category]; done) | rfl
set_option maxRecDepth 65536 in
set_option maxHeartbeats 40000000 in
theorem rmCp2_4 (l : Launch) (Z : State) (a0 : Array Value) (hw : ∀ d ∈ tables_1, d.before a0 Z = true) (ws : List Jvm.Cond) (a1 : Addr) (d0 : Int32) (d1 : Int32) (ka : ClassId) (h0 : Heap) (n0 : Nat) (Z0 : n0 ≤ h0.size) (V_a1 : Arv Z h0 a1 ka .int (2 : Int32) [(.int d0), (.int d1)] (.int (0 : Int32))) :
    MetFree l (⟨"java/util/Arrays", "copyOf", "([II)[I"⟩ : MethodName) (head1 (Jvm.Cond.code (⟨"java/util/Arrays", "copyOf", "([II)[I"⟩ : MethodName) jdk_65_method_123_code 3 (some (.array .int)) :: ws) ({ frames := 1, cells := 1, slots := 4, locals := 18 } : Room)) (fun a U => a = #[(.ref a1), (.int (4 : Int32))] ∧ Z.Warmed39 U.vm ∧ U.heap = h0) (fun _ _ _ _ _ => True) (fun _ U o U' => ∃ v L, o = .returned v ∧ QCp Z (4 : Int32) [(.int d0), (.int d1), (.int (0 : Int32)), (.int (0 : Int32))] h0 n0 v U'.heap L ∧ FrameEnd U o U' L ({ frames := 1, cells := 1, slots := 4, locals := 18 } : Room).cells ({ frames := 1, cells := 1, slots := 4, locals := 18 } : Room).slots) := by
  refine MetFree.of_bodySF (plainFor_of_name pn_java_util_Arrays) hisR ?_
  intro p e s m args below meth c s₁ Bd hml0 hP hK
  obtain ⟨rfl, hZ, hh⟩ := hP
  have hx := Bd.exec
  have hby := Bd.bytes
  have hlk : meth.locks = false := BodyLoose.notSynchronized Bd
  have hml : c.maxLocals = 3 := hml0
  have hown : s.vm.findClass "java/util/Arrays" = some m.cls := findClass_of_methodNamed Bd.named
  have hnm := (name_of_methodNamed Bd.named Bd.method).1
  have X0 : Stand p l e ({ frames := 1, cells := 1, slots := 4, locals := 18 } : Room) s m #[(.ref a1), (.int (4 : Int32))] below meth c s₁ [] 0 0 := Stand.of_body Bd
  have e0 : s₁.heap = h0 := by rw [← hh, Bd.state]; rfl
  have N0 := Fr.nil n0
  have hret := Bd.returns
  show Goes p e below (fun o U' => ∃ v L, o = .returned v ∧ QCp Z (4 : Int32) [(.int d0), (.int d1), (.int (0 : Int32)), (.int (0 : Int32))] h0 n0 v U'.heap L ∧ FrameEnd s o U' L ({ frames := 1, cells := 1, slots := 4, locals := 18 } : Room).cells ({ frames := 1, cells := 1, slots := 4, locals := 18 } : Room).slots) (s₁.setTop (entryFrame m #[(.ref a1), (.int (4 : Int32))] 3))
  refine Goes.step ?_ (fun _ k => castTop (ef_cp2_4 m a1 (4 : Int32)) k)
  show Goes p e below _ (sF s₁ m 0 #[rv a1, iv (4 : Int32), .unset] [])
  refine Goes.step ?_ (fun _ k => XS.iloadN X0.here hx rfl (hb hby d4_0) rfl  k)
  show Goes p e below _ (sF s₁ m 1 #[rv a1, iv (4 : Int32), .unset] [(.int (4 : Int32))])
  refine Goes.step ?_ (fun _ k => XS.aloadN X0.here hx rfl (hb hby d4_1) rfl rfl k)
  show Goes p e below _ (sF s₁ m 2 #[rv a1, iv (4 : Int32), .unset] [(.ref a1), (.int (4 : Int32))])
  obtain ⟨cl1, Ar1, q1, S1, N_1, H1, G1⟩ := id V_a1
  refine Goes.step ?_ (fun _ k => X0.arraylength hx (by rw [e0]; exact Ar1.1) (State.isArrayOf_alike hZ.alike Ar1.2.1) (g := (mkF m 2 #[rv a1, iv (4 : Int32), .unset] [(.ref a1), (.int (4 : Int32))])) rfl rfl (hb hby d4_2) _ k)
  rw [len_of S1 N_1]
  show Goes p e below _ (sF s₁ m 3 #[rv a1, iv (4 : Int32), .unset] [(.int (2 : Int32)), (.int (4 : Int32))])
  refine Goes.step ?_ (fun _ k => XS.icmpYes X0.here hx rfl (pc0 := 3) (pc' := 14) rfl (hb hby d4_3) rfl (feq (by decide : ¬ ((4 : Int32) = (2 : Int32)))).2 (by decide) (by decide) k)
  show Goes p e below _ (sF s₁ m 14 #[rv a1, iv (4 : Int32), .unset] [])
  refine Goes.step ?_ (fun _ k => XS.iloadN X0.here hx rfl (hb hby d4_14) rfl  k)
  show Goes p e below _ (sF s₁ m 15 #[rv a1, iv (4 : Int32), .unset] [(.int (4 : Int32))])
  obtain ⟨T2, h2, k2, X2, e2, E2, A2, B2, st2⟩ := newPE X0 hx hZ (hw _ (List.mem_of_getElem? (i := 0) rfl)) e0 (g := (mkF m 15 #[rv a1, iv (4 : Int32), .unset] [(.int (4 : Int32))])) rfl (hb hby d4_15) rfl (by decide) (cap := 4) (by decide) (by decide) (by decide) (by decide) (ad := "[I") (by decide)
  obtain ⟨b2, g2⟩ : ∃ z, z = h0.size := ⟨_, rfl⟩
  rw [← g2] at A2 B2 st2
  have g_b2 : n0 ≤ b2 := Nat.le_trans Z0 (Nat.le_of_eq g2.symm)
  have ne_a1_b2 : a1 ≠ b2 := Nat.ne_of_lt (Nat.lt_of_lt_of_le V_a1.lt (Nat.le_of_eq g2.symm))
  have Zs2 : n0 ≤ h2.size := Nat.le_trans Z0 E2.1
  refine Goes.step ?_ st2
  have V_b2 : Arv Z h2 b2 k2 .int (4 : Int32) [(.int (0 : Int32)), (.int (0 : Int32)), (.int (0 : Int32)), (.int (0 : Int32))] (.int (0 : Int32)) := (Arv.new A2 (by decide)).pad (pad_rep [] (.int (0 : Int32)) 4)
  show Goes p e below _ (sF T2 m 17 #[rv a1, iv (4 : Int32), .unset] [(.ref b2)])
  refine Goes.step ?_ (fun _ k => XS.astoreN X2.here hx rfl (hb hby d4_17) rfl rfl (l' := #[rv a1, iv (4 : Int32), rv b2]) rfl k)
  show Goes p e below _ (sF T2 m 18 #[rv a1, iv (4 : Int32), rv b2] [])
  refine Goes.step ?_ (fun _ k => XS.aloadN X2.here hx rfl (hb hby d4_18) rfl rfl k)
  show Goes p e below _ (sF T2 m 19 #[rv a1, iv (4 : Int32), rv b2] [(.ref a1)])
  refine Goes.step ?_ (fun _ k => XS.iconst X2.here hx rfl (hb hby d4_19) k)
  show Goes p e below _ (sF T2 m 20 #[rv a1, iv (4 : Int32), rv b2] [(.int (0 : Int32)), (.ref a1)])
  refine Goes.step ?_ (fun _ k => XS.aloadN X2.here hx rfl (hb hby d4_20) rfl rfl k)
  show Goes p e below _ (sF T2 m 21 #[rv a1, iv (4 : Int32), rv b2] [(.ref b2), (.int (0 : Int32)), (.ref a1)])
  refine Goes.step ?_ (fun _ k => XS.iconst X2.here hx rfl (hb hby d4_21) k)
  show Goes p e below _ (sF T2 m 22 #[rv a1, iv (4 : Int32), rv b2] [(.int (0 : Int32)), (.ref b2), (.int (0 : Int32)), (.ref a1)])
  refine Goes.step ?_ (fun _ k => XS.aloadN X2.here hx rfl (hb hby d4_22) rfl rfl k)
  show Goes p e below _ (sF T2 m 23 #[rv a1, iv (4 : Int32), rv b2] [(.ref a1), (.int (0 : Int32)), (.ref b2), (.int (0 : Int32)), (.ref a1)])
  have V_a1_3 := (V_a1.ext E2)
  obtain ⟨cl4, Ar4, q4, S4, N_4, H4, G4⟩ := id V_a1_3
  refine Goes.step ?_ (fun _ k => X2.arraylength hx (by rw [e2]; exact Ar4.1) (State.isArrayOf_alike hZ.alike Ar4.2.1) (g := (mkF m 23 #[rv a1, iv (4 : Int32), rv b2] [(.ref a1), (.int (0 : Int32)), (.ref b2), (.int (0 : Int32)), (.ref a1)])) rfl rfl (hb hby d4_23) _ k)
  rw [len_of S4 N_4]
  show Goes p e below _ (sF T2 m 24 #[rv a1, iv (4 : Int32), rv b2] [(.int (2 : Int32)), (.int (0 : Int32)), (.ref b2), (.int (0 : Int32)), (.ref a1)])
  refine Goes.step ?_ (fun _ k => XS.iloadN X2.here hx rfl (hb hby d4_24) rfl  k)
  show Goes p e below _ (sF T2 m 25 #[rv a1, iv (4 : Int32), rv b2] [(.int (4 : Int32)), (.int (2 : Int32)), (.int (0 : Int32)), (.ref b2), (.int (0 : Int32)), (.ref a1)])
  obtain ⟨_, _, ⟨T5, L5, k5, n5⟩, -, X5, ⟨Lc5, hQ5, l5, y5, z5⟩, st5⟩ := Jvm.LawKit.callS X2 hx (y := (⟨"java/lang/Math", "min", "(II)I"⟩ : MethodName)) hown (mvT hZ (hw _ (List.mem_of_getElem? (i := 25) rfl))) (mvT hZ (hw _ (List.mem_of_getElem? (i := 26) rfl))) (mvT hZ (hw _ (List.mem_of_getElem? (i := 27) rfl))) (mvT hZ (hw _ (List.mem_of_getElem? (i := 28) rfl))) (by decide) (backOf (W := 4) (rmMin l Z a0 hw [] (2 : Int32) (4 : Int32) (2 : Int32) h2 n0 Zs2 (by decide)) hZ (hw _ (List.mem_of_getElem? (i := 28) rfl)) (hw _ (List.mem_of_getElem? (i := 27) rfl)) (by decide) (by decide)) (g := (mkF m 25 #[rv a1, iv (4 : Int32), rv b2] [(.int (4 : Int32)), (.int (2 : Int32)), (.int (0 : Int32)), (.ref b2), (.int (0 : Int32)), (.ref a1)])) rfl (by rw [hml]; rfl) (argsL := [(.int (2 : Int32)), (.int (4 : Int32))]) (rest := [(.int (0 : Int32)), (.ref b2), (.int (0 : Int32)), (.ref a1)]) (lenOf pd__28II_29I rfl) rfl (by show 2 * 0 + _ ≤ _; exact Nat.le_of_eq rfl) (hb hby d4_25) (fun _ _ => ⟨rfl, e2, (by decide : 0 + 1 + 0 ≤ _), (by decide : 0 + 4 + 0 ≤ _)⟩)
  dsimp only [Pt.U, Pt.locs, Pt.cells, Pt.slots] at X5 l5 y5 z5 st5 hQ5
  subst l5 y5 z5
  obtain ⟨rfl, N5q, e5⟩ := hQ5
  have N5 := Fr.app N0 N5q
  refine Goes.step ?_ st5
  show Goes p e below _ (sF T5 m 28 #[rv a1, iv (4 : Int32), rv b2] [(.int (2 : Int32)), (.int (0 : Int32)), (.ref b2), (.int (0 : Int32)), (.ref a1)])
  obtain ⟨T6, h6, L6, X6, e6, N6, K6, Vc6, st6⟩ := cpA X5 hx hZ hown (hw _ (List.mem_of_getElem? (i := 29) rfl)) (hw _ (List.mem_of_getElem? (i := 32) rfl)) (hw _ (List.mem_of_getElem? (i := 30) rfl)) (hw _ (List.mem_of_getElem? (i := 31) rfl)) e5 (us := [(.int d0), (.int d1)]) V_a1_3 V_b2 (Or.inl ⟨rfl, rfl⟩) (by decide) (by decide) (by decide) (by decide) (by decide) rfl (by decide) N5 g_b2 (g := (mkF m 28 #[rv a1, iv (4 : Int32), rv b2] [(.int (2 : Int32)), (.int (0 : Int32)), (.ref b2), (.int (0 : Int32)), (.ref a1)])) rfl (by rw [hml]; rfl) rfl (hb hby d4_28) (by decide) (W := 0) (by show 2 * 0 + _ ≤ _; exact Nat.le_of_eq rfl) (by decide)
  have V_6 : Arv Z h6 b2 k2 .int (4 : Int32) [(.int d0), (.int d1), (.int (0 : Int32)), (.int (0 : Int32))] (.int (0 : Int32)) := Vc6
  refine Goes.step ?_ st6
  show Goes p e below _ (sF T6 m 31 #[rv a1, iv (4 : Int32), rv b2] [])
  refine Goes.step ?_ (fun _ k => XS.aloadN X6.here hx rfl (hb hby d4_31) rfl rfl k)
  show Goes p e below _ (sF T6 m 32 #[rv a1, iv (4 : Int32), rv b2] [(.ref b2)])
  refine own_out X6 hx hlk hret rfl (Or.inr (Or.inr (Or.inr (Or.inr ⟨rfl, rfl, rfl⟩)))) (hb hby d4_32) ?_ (by decide) (by decide)
  show QCp Z (4 : Int32) [(.int d0), (.int d1), (.int (0 : Int32)), (.int (0 : Int32))] h0 n0 _ T6.heap _
  rw [e6]
  exact ⟨b2, k2, rfl, N6, own_ext E2 K6 (Nat.le_of_eq g2.symm), Nat.le_of_eq g2.symm, V_6, B2.keep K6⟩
theorem ef_cp4_3 (m : MethodId) (x0 : Addr) (x1 : Int32) : entryFrame m #[(.ref x0), (.int x1)] 3 = mkF m 0 #[rv x0, iv x1, .unset] [] := by first | (simp [entryFrame, mkF, argsToLocals, Value.category]; done) | rfl
set_option maxRecDepth 65536 in
set_option maxHeartbeats 40000000 in
theorem rmCp4_3 (l : Launch) (Z : State) (a0 : Array Value) (hw : ∀ d ∈ tables_1, d.before a0 Z = true) (ws : List Jvm.Cond) (a1 : Addr) (d0 : Int32) (d1 : Int32) (d2 : Int32) (d3 : Int32) (ka : ClassId) (h0 : Heap) (n0 : Nat) (Z0 : n0 ≤ h0.size) (V_a1 : Arv Z h0 a1 ka .int (4 : Int32) [(.int d0), (.int d1), (.int d2), (.int d3)] (.int (0 : Int32))) :
    MetFree l (⟨"java/util/Arrays", "copyOf", "([II)[I"⟩ : MethodName) (head1 (Jvm.Cond.code (⟨"java/util/Arrays", "copyOf", "([II)[I"⟩ : MethodName) jdk_65_method_123_code 3 (some (.array .int)) :: ws) ({ frames := 1, cells := 1, slots := 4, locals := 18 } : Room)) (fun a U => a = #[(.ref a1), (.int (3 : Int32))] ∧ Z.Warmed39 U.vm ∧ U.heap = h0) (fun _ _ _ _ _ => True) (fun _ U o U' => ∃ v L, o = .returned v ∧ QCp Z (3 : Int32) [(.int d0), (.int d1), (.int d2)] h0 n0 v U'.heap L ∧ FrameEnd U o U' L ({ frames := 1, cells := 1, slots := 4, locals := 18 } : Room).cells ({ frames := 1, cells := 1, slots := 4, locals := 18 } : Room).slots) := by
  refine MetFree.of_bodySF (plainFor_of_name pn_java_util_Arrays) hisR ?_
  intro p e s m args below meth c s₁ Bd hml0 hP hK
  obtain ⟨rfl, hZ, hh⟩ := hP
  have hx := Bd.exec
  have hby := Bd.bytes
  have hlk : meth.locks = false := BodyLoose.notSynchronized Bd
  have hml : c.maxLocals = 3 := hml0
  have hown : s.vm.findClass "java/util/Arrays" = some m.cls := findClass_of_methodNamed Bd.named
  have hnm := (name_of_methodNamed Bd.named Bd.method).1
  have X0 : Stand p l e ({ frames := 1, cells := 1, slots := 4, locals := 18 } : Room) s m #[(.ref a1), (.int (3 : Int32))] below meth c s₁ [] 0 0 := Stand.of_body Bd
  have e0 : s₁.heap = h0 := by rw [← hh, Bd.state]; rfl
  have N0 := Fr.nil n0
  have hret := Bd.returns
  show Goes p e below (fun o U' => ∃ v L, o = .returned v ∧ QCp Z (3 : Int32) [(.int d0), (.int d1), (.int d2)] h0 n0 v U'.heap L ∧ FrameEnd s o U' L ({ frames := 1, cells := 1, slots := 4, locals := 18 } : Room).cells ({ frames := 1, cells := 1, slots := 4, locals := 18 } : Room).slots) (s₁.setTop (entryFrame m #[(.ref a1), (.int (3 : Int32))] 3))
  refine Goes.step ?_ (fun _ k => castTop (ef_cp4_3 m a1 (3 : Int32)) k)
  show Goes p e below _ (sF s₁ m 0 #[rv a1, iv (3 : Int32), .unset] [])
  refine Goes.step ?_ (fun _ k => XS.iloadN X0.here hx rfl (hb hby d4_0) rfl  k)
  show Goes p e below _ (sF s₁ m 1 #[rv a1, iv (3 : Int32), .unset] [(.int (3 : Int32))])
  refine Goes.step ?_ (fun _ k => XS.aloadN X0.here hx rfl (hb hby d4_1) rfl rfl k)
  show Goes p e below _ (sF s₁ m 2 #[rv a1, iv (3 : Int32), .unset] [(.ref a1), (.int (3 : Int32))])
  obtain ⟨cl1, Ar1, q1, S1, N_1, H1, G1⟩ := id V_a1
  refine Goes.step ?_ (fun _ k => X0.arraylength hx (by rw [e0]; exact Ar1.1) (State.isArrayOf_alike hZ.alike Ar1.2.1) (g := (mkF m 2 #[rv a1, iv (3 : Int32), .unset] [(.ref a1), (.int (3 : Int32))])) rfl rfl (hb hby d4_2) _ k)
  rw [len_of S1 N_1]
  show Goes p e below _ (sF s₁ m 3 #[rv a1, iv (3 : Int32), .unset] [(.int (4 : Int32)), (.int (3 : Int32))])
  refine Goes.step ?_ (fun _ k => XS.icmpYes X0.here hx rfl (pc0 := 3) (pc' := 14) rfl (hb hby d4_3) rfl (feq (by decide : ¬ ((3 : Int32) = (4 : Int32)))).2 (by decide) (by decide) k)
  show Goes p e below _ (sF s₁ m 14 #[rv a1, iv (3 : Int32), .unset] [])
  refine Goes.step ?_ (fun _ k => XS.iloadN X0.here hx rfl (hb hby d4_14) rfl  k)
  show Goes p e below _ (sF s₁ m 15 #[rv a1, iv (3 : Int32), .unset] [(.int (3 : Int32))])
  obtain ⟨T2, h2, k2, X2, e2, E2, A2, B2, st2⟩ := newPE X0 hx hZ (hw _ (List.mem_of_getElem? (i := 0) rfl)) e0 (g := (mkF m 15 #[rv a1, iv (3 : Int32), .unset] [(.int (3 : Int32))])) rfl (hb hby d4_15) rfl (by decide) (cap := 4) (by decide) (by decide) (by decide) (by decide) (ad := "[I") (by decide)
  obtain ⟨b2, g2⟩ : ∃ z, z = h0.size := ⟨_, rfl⟩
  rw [← g2] at A2 B2 st2
  have g_b2 : n0 ≤ b2 := Nat.le_trans Z0 (Nat.le_of_eq g2.symm)
  have ne_a1_b2 : a1 ≠ b2 := Nat.ne_of_lt (Nat.lt_of_lt_of_le V_a1.lt (Nat.le_of_eq g2.symm))
  have Zs2 : n0 ≤ h2.size := Nat.le_trans Z0 E2.1
  refine Goes.step ?_ st2
  have V_b2 : Arv Z h2 b2 k2 .int (3 : Int32) [(.int (0 : Int32)), (.int (0 : Int32)), (.int (0 : Int32))] (.int (0 : Int32)) := (Arv.new A2 (by decide)).pad (pad_rep [] (.int (0 : Int32)) 3)
  show Goes p e below _ (sF T2 m 17 #[rv a1, iv (3 : Int32), .unset] [(.ref b2)])
  refine Goes.step ?_ (fun _ k => XS.astoreN X2.here hx rfl (hb hby d4_17) rfl rfl (l' := #[rv a1, iv (3 : Int32), rv b2]) rfl k)
  show Goes p e below _ (sF T2 m 18 #[rv a1, iv (3 : Int32), rv b2] [])
  refine Goes.step ?_ (fun _ k => XS.aloadN X2.here hx rfl (hb hby d4_18) rfl rfl k)
  show Goes p e below _ (sF T2 m 19 #[rv a1, iv (3 : Int32), rv b2] [(.ref a1)])
  refine Goes.step ?_ (fun _ k => XS.iconst X2.here hx rfl (hb hby d4_19) k)
  show Goes p e below _ (sF T2 m 20 #[rv a1, iv (3 : Int32), rv b2] [(.int (0 : Int32)), (.ref a1)])
  refine Goes.step ?_ (fun _ k => XS.aloadN X2.here hx rfl (hb hby d4_20) rfl rfl k)
  show Goes p e below _ (sF T2 m 21 #[rv a1, iv (3 : Int32), rv b2] [(.ref b2), (.int (0 : Int32)), (.ref a1)])
  refine Goes.step ?_ (fun _ k => XS.iconst X2.here hx rfl (hb hby d4_21) k)
  show Goes p e below _ (sF T2 m 22 #[rv a1, iv (3 : Int32), rv b2] [(.int (0 : Int32)), (.ref b2), (.int (0 : Int32)), (.ref a1)])
  refine Goes.step ?_ (fun _ k => XS.aloadN X2.here hx rfl (hb hby d4_22) rfl rfl k)
  show Goes p e below _ (sF T2 m 23 #[rv a1, iv (3 : Int32), rv b2] [(.ref a1), (.int (0 : Int32)), (.ref b2), (.int (0 : Int32)), (.ref a1)])
  have V_a1_3 := (V_a1.ext E2)
  obtain ⟨cl4, Ar4, q4, S4, N_4, H4, G4⟩ := id V_a1_3
  refine Goes.step ?_ (fun _ k => X2.arraylength hx (by rw [e2]; exact Ar4.1) (State.isArrayOf_alike hZ.alike Ar4.2.1) (g := (mkF m 23 #[rv a1, iv (3 : Int32), rv b2] [(.ref a1), (.int (0 : Int32)), (.ref b2), (.int (0 : Int32)), (.ref a1)])) rfl rfl (hb hby d4_23) _ k)
  rw [len_of S4 N_4]
  show Goes p e below _ (sF T2 m 24 #[rv a1, iv (3 : Int32), rv b2] [(.int (4 : Int32)), (.int (0 : Int32)), (.ref b2), (.int (0 : Int32)), (.ref a1)])
  refine Goes.step ?_ (fun _ k => XS.iloadN X2.here hx rfl (hb hby d4_24) rfl  k)
  show Goes p e below _ (sF T2 m 25 #[rv a1, iv (3 : Int32), rv b2] [(.int (3 : Int32)), (.int (4 : Int32)), (.int (0 : Int32)), (.ref b2), (.int (0 : Int32)), (.ref a1)])
  obtain ⟨_, _, ⟨T5, L5, k5, n5⟩, -, X5, ⟨Lc5, hQ5, l5, y5, z5⟩, st5⟩ := Jvm.LawKit.callS X2 hx (y := (⟨"java/lang/Math", "min", "(II)I"⟩ : MethodName)) hown (mvT hZ (hw _ (List.mem_of_getElem? (i := 25) rfl))) (mvT hZ (hw _ (List.mem_of_getElem? (i := 26) rfl))) (mvT hZ (hw _ (List.mem_of_getElem? (i := 27) rfl))) (mvT hZ (hw _ (List.mem_of_getElem? (i := 28) rfl))) (by decide) (backOf (W := 4) (rmMin l Z a0 hw [] (4 : Int32) (3 : Int32) (3 : Int32) h2 n0 Zs2 (by decide)) hZ (hw _ (List.mem_of_getElem? (i := 28) rfl)) (hw _ (List.mem_of_getElem? (i := 27) rfl)) (by decide) (by decide)) (g := (mkF m 25 #[rv a1, iv (3 : Int32), rv b2] [(.int (3 : Int32)), (.int (4 : Int32)), (.int (0 : Int32)), (.ref b2), (.int (0 : Int32)), (.ref a1)])) rfl (by rw [hml]; rfl) (argsL := [(.int (4 : Int32)), (.int (3 : Int32))]) (rest := [(.int (0 : Int32)), (.ref b2), (.int (0 : Int32)), (.ref a1)]) (lenOf pd__28II_29I rfl) rfl (by show 2 * 0 + _ ≤ _; exact Nat.le_of_eq rfl) (hb hby d4_25) (fun _ _ => ⟨rfl, e2, (by decide : 0 + 1 + 0 ≤ _), (by decide : 0 + 4 + 0 ≤ _)⟩)
  dsimp only [Pt.U, Pt.locs, Pt.cells, Pt.slots] at X5 l5 y5 z5 st5 hQ5
  subst l5 y5 z5
  obtain ⟨rfl, N5q, e5⟩ := hQ5
  have N5 := Fr.app N0 N5q
  refine Goes.step ?_ st5
  show Goes p e below _ (sF T5 m 28 #[rv a1, iv (3 : Int32), rv b2] [(.int (3 : Int32)), (.int (0 : Int32)), (.ref b2), (.int (0 : Int32)), (.ref a1)])
  obtain ⟨T6, h6, L6, X6, e6, N6, K6, Vc6, st6⟩ := cpA X5 hx hZ hown (hw _ (List.mem_of_getElem? (i := 29) rfl)) (hw _ (List.mem_of_getElem? (i := 32) rfl)) (hw _ (List.mem_of_getElem? (i := 30) rfl)) (hw _ (List.mem_of_getElem? (i := 31) rfl)) e5 (us := [(.int d0), (.int d1), (.int d2)]) V_a1_3 V_b2 (Or.inl ⟨rfl, rfl⟩) (by decide) (by decide) (by decide) (by decide) (by decide) rfl (by decide) N5 g_b2 (g := (mkF m 28 #[rv a1, iv (3 : Int32), rv b2] [(.int (3 : Int32)), (.int (0 : Int32)), (.ref b2), (.int (0 : Int32)), (.ref a1)])) rfl (by rw [hml]; rfl) rfl (hb hby d4_28) (by decide) (W := 0) (by show 2 * 0 + _ ≤ _; exact Nat.le_of_eq rfl) (by decide)
  have V_6 : Arv Z h6 b2 k2 .int (3 : Int32) [(.int d0), (.int d1), (.int d2)] (.int (0 : Int32)) := Vc6
  refine Goes.step ?_ st6
  show Goes p e below _ (sF T6 m 31 #[rv a1, iv (3 : Int32), rv b2] [])
  refine Goes.step ?_ (fun _ k => XS.aloadN X6.here hx rfl (hb hby d4_31) rfl rfl k)
  show Goes p e below _ (sF T6 m 32 #[rv a1, iv (3 : Int32), rv b2] [(.ref b2)])
  refine own_out X6 hx hlk hret rfl (Or.inr (Or.inr (Or.inr (Or.inr ⟨rfl, rfl, rfl⟩)))) (hb hby d4_32) ?_ (by decide) (by decide)
  show QCp Z (3 : Int32) [(.int d0), (.int d1), (.int d2)] h0 n0 _ T6.heap _
  rw [e6]
  exact ⟨b2, k2, rfl, N6, own_ext E2 K6 (Nat.le_of_eq g2.symm), Nat.le_of_eq g2.symm, V_6, B2.keep K6⟩
theorem ef_cp1_0 (m : MethodId) (x0 : Addr) (x1 : Int32) : entryFrame m #[(.ref x0), (.int x1)] 3 = mkF m 0 #[rv x0, iv x1, .unset] [] := by first | (simp [entryFrame, mkF, argsToLocals, Value.category]; done) | rfl
set_option maxRecDepth 65536 in
set_option maxHeartbeats 40000000 in
theorem rmCp1_0 (l : Launch) (Z : State) (a0 : Array Value) (hw : ∀ d ∈ tables_1, d.before a0 Z = true) (ws : List Jvm.Cond) (a1 : Addr) (d0 : Int32) (ka : ClassId) (h0 : Heap) (n0 : Nat) (Z0 : n0 ≤ h0.size) (V_a1 : Arv Z h0 a1 ka .int (1 : Int32) [(.int d0)] (.int (0 : Int32))) :
    MetFree l (⟨"java/util/Arrays", "copyOf", "([II)[I"⟩ : MethodName) (head1 (Jvm.Cond.code (⟨"java/util/Arrays", "copyOf", "([II)[I"⟩ : MethodName) jdk_65_method_123_code 3 (some (.array .int)) :: ws) ({ frames := 1, cells := 1, slots := 4, locals := 18 } : Room)) (fun a U => a = #[(.ref a1), (.int (0 : Int32))] ∧ Z.Warmed39 U.vm ∧ U.heap = h0) (fun _ _ _ _ _ => True) (fun _ U o U' => ∃ v L, o = .returned v ∧ QCp Z (0 : Int32) [] h0 n0 v U'.heap L ∧ FrameEnd U o U' L ({ frames := 1, cells := 1, slots := 4, locals := 18 } : Room).cells ({ frames := 1, cells := 1, slots := 4, locals := 18 } : Room).slots) := by
  refine MetFree.of_bodySF (plainFor_of_name pn_java_util_Arrays) hisR ?_
  intro p e s m args below meth c s₁ Bd hml0 hP hK
  obtain ⟨rfl, hZ, hh⟩ := hP
  have hx := Bd.exec
  have hby := Bd.bytes
  have hlk : meth.locks = false := BodyLoose.notSynchronized Bd
  have hml : c.maxLocals = 3 := hml0
  have hown : s.vm.findClass "java/util/Arrays" = some m.cls := findClass_of_methodNamed Bd.named
  have hnm := (name_of_methodNamed Bd.named Bd.method).1
  have X0 : Stand p l e ({ frames := 1, cells := 1, slots := 4, locals := 18 } : Room) s m #[(.ref a1), (.int (0 : Int32))] below meth c s₁ [] 0 0 := Stand.of_body Bd
  have e0 : s₁.heap = h0 := by rw [← hh, Bd.state]; rfl
  have N0 := Fr.nil n0
  have hret := Bd.returns
  show Goes p e below (fun o U' => ∃ v L, o = .returned v ∧ QCp Z (0 : Int32) [] h0 n0 v U'.heap L ∧ FrameEnd s o U' L ({ frames := 1, cells := 1, slots := 4, locals := 18 } : Room).cells ({ frames := 1, cells := 1, slots := 4, locals := 18 } : Room).slots) (s₁.setTop (entryFrame m #[(.ref a1), (.int (0 : Int32))] 3))
  refine Goes.step ?_ (fun _ k => castTop (ef_cp1_0 m a1 (0 : Int32)) k)
  show Goes p e below _ (sF s₁ m 0 #[rv a1, iv (0 : Int32), .unset] [])
  refine Goes.step ?_ (fun _ k => XS.iloadN X0.here hx rfl (hb hby d4_0) rfl  k)
  show Goes p e below _ (sF s₁ m 1 #[rv a1, iv (0 : Int32), .unset] [(.int (0 : Int32))])
  refine Goes.step ?_ (fun _ k => XS.aloadN X0.here hx rfl (hb hby d4_1) rfl rfl k)
  show Goes p e below _ (sF s₁ m 2 #[rv a1, iv (0 : Int32), .unset] [(.ref a1), (.int (0 : Int32))])
  obtain ⟨cl1, Ar1, q1, S1, N_1, H1, G1⟩ := id V_a1
  refine Goes.step ?_ (fun _ k => X0.arraylength hx (by rw [e0]; exact Ar1.1) (State.isArrayOf_alike hZ.alike Ar1.2.1) (g := (mkF m 2 #[rv a1, iv (0 : Int32), .unset] [(.ref a1), (.int (0 : Int32))])) rfl rfl (hb hby d4_2) _ k)
  rw [len_of S1 N_1]
  show Goes p e below _ (sF s₁ m 3 #[rv a1, iv (0 : Int32), .unset] [(.int (1 : Int32)), (.int (0 : Int32))])
  refine Goes.step ?_ (fun _ k => XS.icmpYes X0.here hx rfl (pc0 := 3) (pc' := 14) rfl (hb hby d4_3) rfl (feq (by decide : ¬ ((0 : Int32) = (1 : Int32)))).2 (by decide) (by decide) k)
  show Goes p e below _ (sF s₁ m 14 #[rv a1, iv (0 : Int32), .unset] [])
  refine Goes.step ?_ (fun _ k => XS.iloadN X0.here hx rfl (hb hby d4_14) rfl  k)
  show Goes p e below _ (sF s₁ m 15 #[rv a1, iv (0 : Int32), .unset] [(.int (0 : Int32))])
  obtain ⟨T2, h2, k2, X2, e2, E2, A2, B2, st2⟩ := newPE X0 hx hZ (hw _ (List.mem_of_getElem? (i := 0) rfl)) e0 (g := (mkF m 15 #[rv a1, iv (0 : Int32), .unset] [(.int (0 : Int32))])) rfl (hb hby d4_15) rfl (by decide) (cap := 4) (by decide) (by decide) (by decide) (by decide) (ad := "[I") (by decide)
  obtain ⟨b2, g2⟩ : ∃ z, z = h0.size := ⟨_, rfl⟩
  rw [← g2] at A2 B2 st2
  have g_b2 : n0 ≤ b2 := Nat.le_trans Z0 (Nat.le_of_eq g2.symm)
  have ne_a1_b2 : a1 ≠ b2 := Nat.ne_of_lt (Nat.lt_of_lt_of_le V_a1.lt (Nat.le_of_eq g2.symm))
  have Zs2 : n0 ≤ h2.size := Nat.le_trans Z0 E2.1
  refine Goes.step ?_ st2
  have V_b2 : Arv Z h2 b2 k2 .int (0 : Int32) [] (.int (0 : Int32)) := Arv.new A2 (by decide)
  show Goes p e below _ (sF T2 m 17 #[rv a1, iv (0 : Int32), .unset] [(.ref b2)])
  refine Goes.step ?_ (fun _ k => XS.astoreN X2.here hx rfl (hb hby d4_17) rfl rfl (l' := #[rv a1, iv (0 : Int32), rv b2]) rfl k)
  show Goes p e below _ (sF T2 m 18 #[rv a1, iv (0 : Int32), rv b2] [])
  refine Goes.step ?_ (fun _ k => XS.aloadN X2.here hx rfl (hb hby d4_18) rfl rfl k)
  show Goes p e below _ (sF T2 m 19 #[rv a1, iv (0 : Int32), rv b2] [(.ref a1)])
  refine Goes.step ?_ (fun _ k => XS.iconst X2.here hx rfl (hb hby d4_19) k)
  show Goes p e below _ (sF T2 m 20 #[rv a1, iv (0 : Int32), rv b2] [(.int (0 : Int32)), (.ref a1)])
  refine Goes.step ?_ (fun _ k => XS.aloadN X2.here hx rfl (hb hby d4_20) rfl rfl k)
  show Goes p e below _ (sF T2 m 21 #[rv a1, iv (0 : Int32), rv b2] [(.ref b2), (.int (0 : Int32)), (.ref a1)])
  refine Goes.step ?_ (fun _ k => XS.iconst X2.here hx rfl (hb hby d4_21) k)
  show Goes p e below _ (sF T2 m 22 #[rv a1, iv (0 : Int32), rv b2] [(.int (0 : Int32)), (.ref b2), (.int (0 : Int32)), (.ref a1)])
  refine Goes.step ?_ (fun _ k => XS.aloadN X2.here hx rfl (hb hby d4_22) rfl rfl k)
  show Goes p e below _ (sF T2 m 23 #[rv a1, iv (0 : Int32), rv b2] [(.ref a1), (.int (0 : Int32)), (.ref b2), (.int (0 : Int32)), (.ref a1)])
  have V_a1_3 := (V_a1.ext E2)
  obtain ⟨cl4, Ar4, q4, S4, N_4, H4, G4⟩ := id V_a1_3
  refine Goes.step ?_ (fun _ k => X2.arraylength hx (by rw [e2]; exact Ar4.1) (State.isArrayOf_alike hZ.alike Ar4.2.1) (g := (mkF m 23 #[rv a1, iv (0 : Int32), rv b2] [(.ref a1), (.int (0 : Int32)), (.ref b2), (.int (0 : Int32)), (.ref a1)])) rfl rfl (hb hby d4_23) _ k)
  rw [len_of S4 N_4]
  show Goes p e below _ (sF T2 m 24 #[rv a1, iv (0 : Int32), rv b2] [(.int (1 : Int32)), (.int (0 : Int32)), (.ref b2), (.int (0 : Int32)), (.ref a1)])
  refine Goes.step ?_ (fun _ k => XS.iloadN X2.here hx rfl (hb hby d4_24) rfl  k)
  show Goes p e below _ (sF T2 m 25 #[rv a1, iv (0 : Int32), rv b2] [(.int (0 : Int32)), (.int (1 : Int32)), (.int (0 : Int32)), (.ref b2), (.int (0 : Int32)), (.ref a1)])
  obtain ⟨_, _, ⟨T5, L5, k5, n5⟩, -, X5, ⟨Lc5, hQ5, l5, y5, z5⟩, st5⟩ := Jvm.LawKit.callS X2 hx (y := (⟨"java/lang/Math", "min", "(II)I"⟩ : MethodName)) hown (mvT hZ (hw _ (List.mem_of_getElem? (i := 25) rfl))) (mvT hZ (hw _ (List.mem_of_getElem? (i := 26) rfl))) (mvT hZ (hw _ (List.mem_of_getElem? (i := 27) rfl))) (mvT hZ (hw _ (List.mem_of_getElem? (i := 28) rfl))) (by decide) (backOf (W := 4) (rmMin l Z a0 hw [] (1 : Int32) (0 : Int32) (0 : Int32) h2 n0 Zs2 (by decide)) hZ (hw _ (List.mem_of_getElem? (i := 28) rfl)) (hw _ (List.mem_of_getElem? (i := 27) rfl)) (by decide) (by decide)) (g := (mkF m 25 #[rv a1, iv (0 : Int32), rv b2] [(.int (0 : Int32)), (.int (1 : Int32)), (.int (0 : Int32)), (.ref b2), (.int (0 : Int32)), (.ref a1)])) rfl (by rw [hml]; rfl) (argsL := [(.int (1 : Int32)), (.int (0 : Int32))]) (rest := [(.int (0 : Int32)), (.ref b2), (.int (0 : Int32)), (.ref a1)]) (lenOf pd__28II_29I rfl) rfl (by show 2 * 0 + _ ≤ _; exact Nat.le_of_eq rfl) (hb hby d4_25) (fun _ _ => ⟨rfl, e2, (by decide : 0 + 1 + 0 ≤ _), (by decide : 0 + 4 + 0 ≤ _)⟩)
  dsimp only [Pt.U, Pt.locs, Pt.cells, Pt.slots] at X5 l5 y5 z5 st5 hQ5
  subst l5 y5 z5
  obtain ⟨rfl, N5q, e5⟩ := hQ5
  have N5 := Fr.app N0 N5q
  refine Goes.step ?_ st5
  show Goes p e below _ (sF T5 m 28 #[rv a1, iv (0 : Int32), rv b2] [(.int (0 : Int32)), (.int (0 : Int32)), (.ref b2), (.int (0 : Int32)), (.ref a1)])
  obtain ⟨T6, h6, L6, X6, e6, N6, K6, Vc6, st6⟩ := cpA X5 hx hZ hown (hw _ (List.mem_of_getElem? (i := 29) rfl)) (hw _ (List.mem_of_getElem? (i := 32) rfl)) (hw _ (List.mem_of_getElem? (i := 30) rfl)) (hw _ (List.mem_of_getElem? (i := 31) rfl)) e5 (us := []) V_a1_3 V_b2 (Or.inl ⟨rfl, rfl⟩) (by decide) (by decide) (by decide) (by decide) (by decide) rfl (by decide) N5 g_b2 (g := (mkF m 28 #[rv a1, iv (0 : Int32), rv b2] [(.int (0 : Int32)), (.int (0 : Int32)), (.ref b2), (.int (0 : Int32)), (.ref a1)])) rfl (by rw [hml]; rfl) rfl (hb hby d4_28) (by decide) (W := 0) (by show 2 * 0 + _ ≤ _; exact Nat.le_of_eq rfl) (by decide)
  have V_6 : Arv Z h6 b2 k2 .int (0 : Int32) [] (.int (0 : Int32)) := Vc6
  refine Goes.step ?_ st6
  show Goes p e below _ (sF T6 m 31 #[rv a1, iv (0 : Int32), rv b2] [])
  refine Goes.step ?_ (fun _ k => XS.aloadN X6.here hx rfl (hb hby d4_31) rfl rfl k)
  show Goes p e below _ (sF T6 m 32 #[rv a1, iv (0 : Int32), rv b2] [(.ref b2)])
  refine own_out X6 hx hlk hret rfl (Or.inr (Or.inr (Or.inr (Or.inr ⟨rfl, rfl, rfl⟩)))) (hb hby d4_32) ?_ (by decide) (by decide)
  show QCp Z (0 : Int32) [] h0 n0 _ T6.heap _
  rw [e6]
  exact ⟨b2, k2, rfl, N6, own_ext E2 K6 (Nat.le_of_eq g2.symm), Nat.le_of_eq g2.symm, V_6, B2.keep K6⟩
theorem ef_cp1_1 (m : MethodId) (x0 : Addr) (x1 : Int32) : entryFrame m #[(.ref x0), (.int x1)] 3 = mkF m 0 #[rv x0, iv x1, .unset] [] := by first | (simp [entryFrame, mkF, argsToLocals, Value.category]; done) | rfl
theorem d4_6 : decode jdk_65_method_123_code 6 = .ok (.aload_n 0, 1) := by decide +kernel
theorem d4_7 : decode jdk_65_method_123_code 7 = .ok (.invokevirtual 316, 3) := by decide +kernel
theorem d4_10 : decode jdk_65_method_123_code 10 = .ok (.checkcast 317, 3) := by decide +kernel
theorem d4_13 : decode jdk_65_method_123_code 13 = .ok (.areturn, 1) := by decide +kernel
set_option maxRecDepth 65536 in
set_option maxHeartbeats 40000000 in
theorem rmCp1_1 (l : Launch) (Z : State) (a0 : Array Value) (hw : ∀ d ∈ tables_1, d.before a0 Z = true) (ws : List Jvm.Cond) (a1 : Addr) (d0 : Int32) (ka : ClassId) (h0 : Heap) (n0 : Nat) (Z0 : n0 ≤ h0.size) (V_a1 : Arv Z h0 a1 ka .int (1 : Int32) [(.int d0)] (.int (0 : Int32))) (E_a1 : Exa Z h0 a1 "[I") :
    MetFree l (⟨"java/util/Arrays", "copyOf", "([II)[I"⟩ : MethodName) (head1 (Jvm.Cond.code (⟨"java/util/Arrays", "copyOf", "([II)[I"⟩ : MethodName) jdk_65_method_123_code 3 (some (.array .int)) :: ws) ({ frames := 1, cells := 1, slots := 4, locals := 18 } : Room)) (fun a U => a = #[(.ref a1), (.int (1 : Int32))] ∧ Z.Warmed39 U.vm ∧ U.heap = h0) (fun _ _ _ _ _ => True) (fun _ U o U' => ∃ v L, o = .returned v ∧ QCp Z (1 : Int32) [(.int d0)] h0 n0 v U'.heap L ∧ FrameEnd U o U' L ({ frames := 1, cells := 1, slots := 4, locals := 18 } : Room).cells ({ frames := 1, cells := 1, slots := 4, locals := 18 } : Room).slots) := by
  refine MetFree.of_bodySF (plainFor_of_name pn_java_util_Arrays) hisR ?_
  intro p e s m args below meth c s₁ Bd hml0 hP hK
  obtain ⟨rfl, hZ, hh⟩ := hP
  have hx := Bd.exec
  have hby := Bd.bytes
  have hlk : meth.locks = false := BodyLoose.notSynchronized Bd
  have hml : c.maxLocals = 3 := hml0
  have hown : s.vm.findClass "java/util/Arrays" = some m.cls := findClass_of_methodNamed Bd.named
  have hnm := (name_of_methodNamed Bd.named Bd.method).1
  have X0 : Stand p l e ({ frames := 1, cells := 1, slots := 4, locals := 18 } : Room) s m #[(.ref a1), (.int (1 : Int32))] below meth c s₁ [] 0 0 := Stand.of_body Bd
  have e0 : s₁.heap = h0 := by rw [← hh, Bd.state]; rfl
  have N0 := Fr.nil n0
  have hret := Bd.returns
  show Goes p e below (fun o U' => ∃ v L, o = .returned v ∧ QCp Z (1 : Int32) [(.int d0)] h0 n0 v U'.heap L ∧ FrameEnd s o U' L ({ frames := 1, cells := 1, slots := 4, locals := 18 } : Room).cells ({ frames := 1, cells := 1, slots := 4, locals := 18 } : Room).slots) (s₁.setTop (entryFrame m #[(.ref a1), (.int (1 : Int32))] 3))
  refine Goes.step ?_ (fun _ k => castTop (ef_cp1_1 m a1 (1 : Int32)) k)
  show Goes p e below _ (sF s₁ m 0 #[rv a1, iv (1 : Int32), .unset] [])
  refine Goes.step ?_ (fun _ k => XS.iloadN X0.here hx rfl (hb hby d4_0) rfl  k)
  show Goes p e below _ (sF s₁ m 1 #[rv a1, iv (1 : Int32), .unset] [(.int (1 : Int32))])
  refine Goes.step ?_ (fun _ k => XS.aloadN X0.here hx rfl (hb hby d4_1) rfl rfl k)
  show Goes p e below _ (sF s₁ m 2 #[rv a1, iv (1 : Int32), .unset] [(.ref a1), (.int (1 : Int32))])
  obtain ⟨cl1, Ar1, q1, S1, N_1, H1, G1⟩ := id V_a1
  refine Goes.step ?_ (fun _ k => X0.arraylength hx (by rw [e0]; exact Ar1.1) (State.isArrayOf_alike hZ.alike Ar1.2.1) (g := (mkF m 2 #[rv a1, iv (1 : Int32), .unset] [(.ref a1), (.int (1 : Int32))])) rfl rfl (hb hby d4_2) _ k)
  rw [len_of S1 N_1]
  show Goes p e below _ (sF s₁ m 3 #[rv a1, iv (1 : Int32), .unset] [(.int (1 : Int32)), (.int (1 : Int32))])
  refine Goes.step ?_ (fun _ k => XS.icmpNo X0.here hx rfl (hb hby d4_3) rfl (teq (by decide : (1 : Int32) = (1 : Int32))).2 k)
  show Goes p e below _ (sF s₁ m 6 #[rv a1, iv (1 : Int32), .unset] [])
  refine Goes.step ?_ (fun _ k => XS.aloadN X0.here hx rfl (hb hby d4_6) rfl rfl k)
  show Goes p e below _ (sF s₁ m 7 #[rv a1, iv (1 : Int32), .unset] [(.ref a1)])
  obtain ⟨T2, h2, X2, e2, E2, Vc2, A2, st2⟩ := cloneH X0 hx hZ hown (hw _ (List.mem_of_getElem? (i := 43) rfl)) (hw _ (List.mem_of_getElem? (i := 44) rfl)) (hw _ (List.mem_of_getElem? (i := 48) rfl)) (hw _ (List.mem_of_getElem? (i := 46) rfl)) (hw _ (List.mem_of_getElem? (i := 47) rfl)) (hw _ (List.mem_of_getElem? (i := 49) rfl)) e0 V_a1.arh E_a1 (g := (mkF m 7 #[rv a1, iv (1 : Int32), .unset] [(.ref a1)])) rfl (by rw [hml]; rfl) rfl (hb hby d4_7) (by decide) (W := 0) (cap := 4) (by show 2 * 0 + _ ≤ _; exact Nat.le_of_eq rfl) (by decide) (by decide) (by decide) (by decide)
  obtain ⟨b2, g2⟩ : ∃ z, z = h0.size := ⟨_, rfl⟩
  rw [← g2] at Vc2 A2 st2
  have g_b2 : n0 ≤ b2 := Nat.le_trans Z0 (Nat.le_of_eq g2.symm)
  have ne_a1_b2 : a1 ≠ b2 := Nat.ne_of_lt (Nat.lt_of_lt_of_le V_a1.lt (Nat.le_of_eq g2.symm))
  have Zs2 : n0 ≤ h2.size := Nat.le_trans Z0 E2.1
  refine Goes.step ?_ st2
  have V_b2 : Arv Z h2 b2 ka .int (1 : Int32) [(.int d0)] (.int (0 : Int32)) := Vc2
  show Goes p e below _ (sF T2 m 10 #[rv a1, iv (1 : Int32), .unset] [(.ref b2)])
  obtain ⟨T3, X3, e3, st3⟩ := castY X2 hx hZ hown (hw _ (List.mem_of_getElem? (i := 50) rfl)) e2 (Ins.self A2) (g := (mkF m 10 #[rv a1, iv (1 : Int32), .unset] [(.ref b2)])) rfl rfl (hb hby d4_10)
  refine Goes.step ?_ st3
  show Goes p e below _ (sF T3 m 13 #[rv a1, iv (1 : Int32), .unset] [(.ref b2)])
  refine own_out X3 hx hlk hret rfl (Or.inr (Or.inr (Or.inr (Or.inr ⟨rfl, rfl, rfl⟩)))) (hb hby d4_13) ?_ (by decide) (by decide)
  show QCp Z (1 : Int32) [(.int d0)] h0 n0 _ T3.heap _
  rw [e3]
  exact ⟨b2, ka, rfl, N0, E2, Nat.le_of_eq g2.symm, V_b2, A2⟩
theorem ef_cp2_2 (m : MethodId) (x0 : Addr) (x1 : Int32) : entryFrame m #[(.ref x0), (.int x1)] 3 = mkF m 0 #[rv x0, iv x1, .unset] [] := by first | (simp [entryFrame, mkF, argsToLocals, Value.category]; done) | rfl
set_option maxRecDepth 65536 in
set_option maxHeartbeats 40000000 in
theorem rmCp2_2 (l : Launch) (Z : State) (a0 : Array Value) (hw : ∀ d ∈ tables_1, d.before a0 Z = true) (ws : List Jvm.Cond) (a1 : Addr) (d0 : Int32) (d1 : Int32) (ka : ClassId) (h0 : Heap) (n0 : Nat) (Z0 : n0 ≤ h0.size) (V_a1 : Arv Z h0 a1 ka .int (2 : Int32) [(.int d0), (.int d1)] (.int (0 : Int32))) (E_a1 : Exa Z h0 a1 "[I") :
    MetFree l (⟨"java/util/Arrays", "copyOf", "([II)[I"⟩ : MethodName) (head1 (Jvm.Cond.code (⟨"java/util/Arrays", "copyOf", "([II)[I"⟩ : MethodName) jdk_65_method_123_code 3 (some (.array .int)) :: ws) ({ frames := 1, cells := 1, slots := 4, locals := 18 } : Room)) (fun a U => a = #[(.ref a1), (.int (2 : Int32))] ∧ Z.Warmed39 U.vm ∧ U.heap = h0) (fun _ _ _ _ _ => True) (fun _ U o U' => ∃ v L, o = .returned v ∧ QCp Z (2 : Int32) [(.int d0), (.int d1)] h0 n0 v U'.heap L ∧ FrameEnd U o U' L ({ frames := 1, cells := 1, slots := 4, locals := 18 } : Room).cells ({ frames := 1, cells := 1, slots := 4, locals := 18 } : Room).slots) := by
  refine MetFree.of_bodySF (plainFor_of_name pn_java_util_Arrays) hisR ?_
  intro p e s m args below meth c s₁ Bd hml0 hP hK
  obtain ⟨rfl, hZ, hh⟩ := hP
  have hx := Bd.exec
  have hby := Bd.bytes
  have hlk : meth.locks = false := BodyLoose.notSynchronized Bd
  have hml : c.maxLocals = 3 := hml0
  have hown : s.vm.findClass "java/util/Arrays" = some m.cls := findClass_of_methodNamed Bd.named
  have hnm := (name_of_methodNamed Bd.named Bd.method).1
  have X0 : Stand p l e ({ frames := 1, cells := 1, slots := 4, locals := 18 } : Room) s m #[(.ref a1), (.int (2 : Int32))] below meth c s₁ [] 0 0 := Stand.of_body Bd
  have e0 : s₁.heap = h0 := by rw [← hh, Bd.state]; rfl
  have N0 := Fr.nil n0
  have hret := Bd.returns
  show Goes p e below (fun o U' => ∃ v L, o = .returned v ∧ QCp Z (2 : Int32) [(.int d0), (.int d1)] h0 n0 v U'.heap L ∧ FrameEnd s o U' L ({ frames := 1, cells := 1, slots := 4, locals := 18 } : Room).cells ({ frames := 1, cells := 1, slots := 4, locals := 18 } : Room).slots) (s₁.setTop (entryFrame m #[(.ref a1), (.int (2 : Int32))] 3))
  refine Goes.step ?_ (fun _ k => castTop (ef_cp2_2 m a1 (2 : Int32)) k)
  show Goes p e below _ (sF s₁ m 0 #[rv a1, iv (2 : Int32), .unset] [])
  refine Goes.step ?_ (fun _ k => XS.iloadN X0.here hx rfl (hb hby d4_0) rfl  k)
  show Goes p e below _ (sF s₁ m 1 #[rv a1, iv (2 : Int32), .unset] [(.int (2 : Int32))])
  refine Goes.step ?_ (fun _ k => XS.aloadN X0.here hx rfl (hb hby d4_1) rfl rfl k)
  show Goes p e below _ (sF s₁ m 2 #[rv a1, iv (2 : Int32), .unset] [(.ref a1), (.int (2 : Int32))])
  obtain ⟨cl1, Ar1, q1, S1, N_1, H1, G1⟩ := id V_a1
  refine Goes.step ?_ (fun _ k => X0.arraylength hx (by rw [e0]; exact Ar1.1) (State.isArrayOf_alike hZ.alike Ar1.2.1) (g := (mkF m 2 #[rv a1, iv (2 : Int32), .unset] [(.ref a1), (.int (2 : Int32))])) rfl rfl (hb hby d4_2) _ k)
  rw [len_of S1 N_1]
  show Goes p e below _ (sF s₁ m 3 #[rv a1, iv (2 : Int32), .unset] [(.int (2 : Int32)), (.int (2 : Int32))])
  refine Goes.step ?_ (fun _ k => XS.icmpNo X0.here hx rfl (hb hby d4_3) rfl (teq (by decide : (2 : Int32) = (2 : Int32))).2 k)
  show Goes p e below _ (sF s₁ m 6 #[rv a1, iv (2 : Int32), .unset] [])
  refine Goes.step ?_ (fun _ k => XS.aloadN X0.here hx rfl (hb hby d4_6) rfl rfl k)
  show Goes p e below _ (sF s₁ m 7 #[rv a1, iv (2 : Int32), .unset] [(.ref a1)])
  obtain ⟨T2, h2, X2, e2, E2, Vc2, A2, st2⟩ := cloneH X0 hx hZ hown (hw _ (List.mem_of_getElem? (i := 43) rfl)) (hw _ (List.mem_of_getElem? (i := 44) rfl)) (hw _ (List.mem_of_getElem? (i := 48) rfl)) (hw _ (List.mem_of_getElem? (i := 46) rfl)) (hw _ (List.mem_of_getElem? (i := 47) rfl)) (hw _ (List.mem_of_getElem? (i := 49) rfl)) e0 V_a1.arh E_a1 (g := (mkF m 7 #[rv a1, iv (2 : Int32), .unset] [(.ref a1)])) rfl (by rw [hml]; rfl) rfl (hb hby d4_7) (by decide) (W := 0) (cap := 4) (by show 2 * 0 + _ ≤ _; exact Nat.le_of_eq rfl) (by decide) (by decide) (by decide) (by decide)
  obtain ⟨b2, g2⟩ : ∃ z, z = h0.size := ⟨_, rfl⟩
  rw [← g2] at Vc2 A2 st2
  have g_b2 : n0 ≤ b2 := Nat.le_trans Z0 (Nat.le_of_eq g2.symm)
  have ne_a1_b2 : a1 ≠ b2 := Nat.ne_of_lt (Nat.lt_of_lt_of_le V_a1.lt (Nat.le_of_eq g2.symm))
  have Zs2 : n0 ≤ h2.size := Nat.le_trans Z0 E2.1
  refine Goes.step ?_ st2
  have V_b2 : Arv Z h2 b2 ka .int (2 : Int32) [(.int d0), (.int d1)] (.int (0 : Int32)) := Vc2
  show Goes p e below _ (sF T2 m 10 #[rv a1, iv (2 : Int32), .unset] [(.ref b2)])
  obtain ⟨T3, X3, e3, st3⟩ := castY X2 hx hZ hown (hw _ (List.mem_of_getElem? (i := 50) rfl)) e2 (Ins.self A2) (g := (mkF m 10 #[rv a1, iv (2 : Int32), .unset] [(.ref b2)])) rfl rfl (hb hby d4_10)
  refine Goes.step ?_ st3
  show Goes p e below _ (sF T3 m 13 #[rv a1, iv (2 : Int32), .unset] [(.ref b2)])
  refine own_out X3 hx hlk hret rfl (Or.inr (Or.inr (Or.inr (Or.inr ⟨rfl, rfl, rfl⟩)))) (hb hby d4_13) ?_ (by decide) (by decide)
  show QCp Z (2 : Int32) [(.int d0), (.int d1)] h0 n0 _ T3.heap _
  rw [e3]
  exact ⟨b2, ka, rfl, N0, E2, Nat.le_of_eq g2.symm, V_b2, A2⟩
theorem pn_com_example_clio_clio_repository_Columns : plainName "com/example/clio/clio/repository/Columns" = true := by first | (simp [plainName, overriddenIn]; done) | decide +kernel
theorem ef_rmSize (m : MethodId) (x0 : Addr) : entryFrame m #[(.ref x0)] 1 = mkF m 0 #[rv x0] [] := by first | (simp [entryFrame, mkF, argsToLocals, Value.category]; done) | rfl
theorem d6_0 : decode prog_22_method_3_code 0 = .ok (.aload_n 0, 1) := by decide +kernel
theorem d6_1 : decode prog_22_method_3_code 1 = .ok (.getfield 14, 3) := by decide +kernel
theorem d6_4 : decode prog_22_method_3_code 4 = .ok (.ireturn, 1) := by decide +kernel
set_option maxRecDepth 65536 in
set_option maxHeartbeats 40000000 in
theorem rmSize (l : Launch) (Z : State) (a0 : Array Value) (hw : ∀ d ∈ tables_1, d.before a0 Z = true) (ws : List Jvm.Cond) (a1 : Addr) (n : Int32) (h0 : Heap) (n0 : Nat) (Z0 : n0 ≤ h0.size) (F_size : Fld Z h0 a1 "com/example/clio/clio/repository/Columns" "size" "I" (.int n)) :
    MetFree l (⟨"com/example/clio/clio/repository/Columns", "size", "()I"⟩ : MethodName) (head1 (Jvm.Cond.code (⟨"com/example/clio/clio/repository/Columns", "size", "()I"⟩ : MethodName) prog_22_method_3_code 1 (some .int) :: ws) ({ frames := 0, cells := 0, slots := 0, locals := 0 } : Room)) (fun a U => a = #[(.ref a1)] ∧ Z.Warmed39 U.vm ∧ U.heap = h0) (fun _ _ _ _ _ => True) (fun _ U o U' => ∃ v L, o = .returned v ∧ QMin n h0 n0 v U'.heap L ∧ FrameEnd U o U' L ({ frames := 0, cells := 0, slots := 0, locals := 0 } : Room).cells ({ frames := 0, cells := 0, slots := 0, locals := 0 } : Room).slots) := by
  refine MetFree.of_bodySF (plainFor_of_name pn_com_example_clio_clio_repository_Columns) hisR ?_
  intro p e s m args below meth c s₁ Bd hml0 hP hK
  obtain ⟨rfl, hZ, hh⟩ := hP
  have hx := Bd.exec
  have hby := Bd.bytes
  have hlk : meth.locks = false := BodyLoose.notSynchronized Bd
  have hml : c.maxLocals = 1 := hml0
  have hown : s.vm.findClass "com/example/clio/clio/repository/Columns" = some m.cls := findClass_of_methodNamed Bd.named
  have hnm := (name_of_methodNamed Bd.named Bd.method).1
  have X0 : Stand p l e ({ frames := 0, cells := 0, slots := 0, locals := 0 } : Room) s m #[(.ref a1)] below meth c s₁ [] 0 0 := Stand.of_body Bd
  have e0 : s₁.heap = h0 := by rw [← hh, Bd.state]; rfl
  have N0 := Fr.nil n0
  have hret := Bd.returns
  show Goes p e below (fun o U' => ∃ v L, o = .returned v ∧ QMin n h0 n0 v U'.heap L ∧ FrameEnd s o U' L ({ frames := 0, cells := 0, slots := 0, locals := 0 } : Room).cells ({ frames := 0, cells := 0, slots := 0, locals := 0 } : Room).slots) (s₁.setTop (entryFrame m #[(.ref a1)] 1))
  refine Goes.step ?_ (fun _ k => castTop (ef_rmSize m a1) k)
  show Goes p e below _ (sF s₁ m 0 #[rv a1] [])
  refine Goes.step ?_ (fun _ k => XS.aloadN X0.here hx rfl (hb hby d6_0) rfl rfl k)
  show Goes p e below _ (sF s₁ m 1 #[rv a1] [(.ref a1)])
  obtain ⟨T1, X1, e1, st1⟩ := getF X0 hx hZ hown (host := "") (Or.inl (hw _ (List.mem_of_getElem? (i := 19) rfl))) Via.refl e0 F_size (g := (mkF m 1 #[rv a1] [(.ref a1)])) rfl rfl (hb hby d6_1)
  refine Goes.step ?_ st1
  show Goes p e below _ (sF T1 m 4 #[rv a1] [(.int n)])
  refine own_out X1 hx hlk hret rfl (Or.inl ⟨rfl, by simp, _, rfl⟩) (hb hby d6_4) ?_ (by decide) (by decide)
  show QMin n h0 n0 _ T1.heap _
  rw [e1]
  exact ⟨rfl, N0, rfl⟩
theorem ef_col0 (m : MethodId) (x0 : Addr) (x1 : Int32) : entryFrame m #[(.ref x0), (.int x1)] 2 = mkF m 0 #[rv x0, iv x1] [] := by first | (simp [entryFrame, mkF, argsToLocals, Value.category]; done) | rfl
theorem d3_0 : decode prog_22_method_4_code 0 = .ok (.aload_n 0, 1) := by decide +kernel
theorem d3_1 : decode prog_22_method_4_code 1 = .ok (.getfield 9, 3) := by decide +kernel
theorem d3_4 : decode prog_22_method_4_code 4 = .ok (.iload_n 1, 1) := by decide +kernel
theorem d3_5 : decode prog_22_method_4_code 5 = .ok (.aaload, 1) := by decide +kernel
theorem d3_6 : decode prog_22_method_4_code 6 = .ok (.aload_n 0, 1) := by decide +kernel
theorem d3_7 : decode prog_22_method_4_code 7 = .ok (.getfield 14, 3) := by decide +kernel
theorem pd__28_5bII_29_5bI : parseMethodDescriptor "([II)[I" = some ⟨[(.array .int), .int], some (.array .int)⟩ := by decide +kernel
theorem d3_10 : decode prog_22_method_4_code 10 = .ok (.invokestatic 18, 3) := by decide +kernel
theorem d3_13 : decode prog_22_method_4_code 13 = .ok (.areturn, 1) := by decide +kernel
set_option maxRecDepth 65536 in
set_option maxHeartbeats 40000000 in
theorem rmCol0 (l : Launch) (Z : State) (a0 : Array Value) (hw : ∀ d ∈ tables_1, d.before a0 Z = true) (ws : List Jvm.Cond) (a1 : Addr) (ci : Int32) (gA : Addr) (kA : ClassId) (z : Int32) (gl : List Value) (x : Addr) (kx : ClassId) (d0 : Int32) (h0 : Heap) (n0 : Nat) (Z0 : n0 ≤ h0.size) (F_columns : Fld Z h0 a1 "com/example/clio/clio/repository/Columns" "columns" "[[I" (.ref gA)) (F_size : Fld Z h0 a1 "com/example/clio/clio/repository/Columns" "size" "I" (.int (0 : Int32))) (V_gA : Arv Z h0 gA kA (.array .int) z gl .null) (hin : ¬ ci < 0 ∧ ci < z) (hel : gl.getD ci.toNatClampNeg .null = .ref x) (V_x : Arv Z h0 x kx .int (1 : Int32) [(.int d0)] (.int (0 : Int32))) (E_x : Exa Z h0 x "[I") :
    MetFree l (⟨"com/example/clio/clio/repository/Columns", "column", "(I)[I"⟩ : MethodName) (head1 (Jvm.Cond.code (⟨"com/example/clio/clio/repository/Columns", "column", "(I)[I"⟩ : MethodName) prog_22_method_4_code 2 (some (.array .int)) :: ws) ({ frames := 2, cells := 1, slots := 4, locals := 32 } : Room)) (fun a U => a = #[(.ref a1), (.int ci)] ∧ Z.Warmed39 U.vm ∧ U.heap = h0) (fun _ _ _ _ _ => True) (fun _ U o U' => ∃ v L, o = .returned v ∧ QCp Z (0 : Int32) [] h0 n0 v U'.heap L ∧ FrameEnd U o U' L ({ frames := 2, cells := 1, slots := 4, locals := 32 } : Room).cells ({ frames := 2, cells := 1, slots := 4, locals := 32 } : Room).slots) := by
  refine MetFree.of_bodySF (plainFor_of_name pn_com_example_clio_clio_repository_Columns) hisR ?_
  intro p e s m args below meth c s₁ Bd hml0 hP hK
  obtain ⟨rfl, hZ, hh⟩ := hP
  have hx := Bd.exec
  have hby := Bd.bytes
  have hlk : meth.locks = false := BodyLoose.notSynchronized Bd
  have hml : c.maxLocals = 2 := hml0
  have hown : s.vm.findClass "com/example/clio/clio/repository/Columns" = some m.cls := findClass_of_methodNamed Bd.named
  have hnm := (name_of_methodNamed Bd.named Bd.method).1
  have X0 : Stand p l e ({ frames := 2, cells := 1, slots := 4, locals := 32 } : Room) s m #[(.ref a1), (.int ci)] below meth c s₁ [] 0 0 := Stand.of_body Bd
  have e0 : s₁.heap = h0 := by rw [← hh, Bd.state]; rfl
  have N0 := Fr.nil n0
  have hret := Bd.returns
  show Goes p e below (fun o U' => ∃ v L, o = .returned v ∧ QCp Z (0 : Int32) [] h0 n0 v U'.heap L ∧ FrameEnd s o U' L ({ frames := 2, cells := 1, slots := 4, locals := 32 } : Room).cells ({ frames := 2, cells := 1, slots := 4, locals := 32 } : Room).slots) (s₁.setTop (entryFrame m #[(.ref a1), (.int ci)] 2))
  refine Goes.step ?_ (fun _ k => castTop (ef_col0 m a1 ci) k)
  show Goes p e below _ (sF s₁ m 0 #[rv a1, iv ci] [])
  refine Goes.step ?_ (fun _ k => XS.aloadN X0.here hx rfl (hb hby d3_0) rfl rfl k)
  show Goes p e below _ (sF s₁ m 1 #[rv a1, iv ci] [(.ref a1)])
  obtain ⟨T1, X1, e1, st1⟩ := getF X0 hx hZ hown (host := "") (Or.inl (hw _ (List.mem_of_getElem? (i := 12) rfl))) Via.refl e0 F_columns (g := (mkF m 1 #[rv a1, iv ci] [(.ref a1)])) rfl rfl (hb hby d3_1)
  refine Goes.step ?_ st1
  show Goes p e below _ (sF T1 m 4 #[rv a1, iv ci] [(.ref gA)])
  refine Goes.step ?_ (fun _ k => XS.iloadN X1.here hx rfl (hb hby d3_4) rfl  k)
  show Goes p e below _ (sF T1 m 5 #[rv a1, iv ci] [(.int ci), (.ref gA)])
  obtain ⟨cl2, Ar2, q2, S2, N_2, H2, G2⟩ := id V_gA
  have hin3 : ¬ (ci < 0 ∨ cl2.slots.size ≤ (ci).toNatClampNeg) := inb_of S2 hin
  have hat3 : cl2.slots[(ci).toNatClampNeg]? = some (.ref x) := H2.at hin3 hel
  refine Goes.step ?_ (fun _ k => X1.aaload hx (j := ci) (v := (.ref x)) (by rw [e1]; exact Ar2.1) (State.isArrayOf_alike hZ.alike Ar2.2.1) rfl Ar2.2.2 hin3 hat3 (g := (mkF m 5 #[rv a1, iv ci] [(.int ci), (.ref gA)])) rfl rfl (hb hby d3_5) _ k)
  show Goes p e below _ (sF T1 m 6 #[rv a1, iv ci] [(.ref x)])
  refine Goes.step ?_ (fun _ k => XS.aloadN X1.here hx rfl (hb hby d3_6) rfl rfl k)
  show Goes p e below _ (sF T1 m 7 #[rv a1, iv ci] [(.ref a1), (.ref x)])
  obtain ⟨T4, X4, e4, st4⟩ := getF X1 hx hZ hown (host := "") (Or.inl (hw _ (List.mem_of_getElem? (i := 19) rfl))) Via.refl e1 F_size (g := (mkF m 7 #[rv a1, iv ci] [(.ref a1), (.ref x)])) rfl rfl (hb hby d3_7)
  refine Goes.step ?_ st4
  show Goes p e below _ (sF T4 m 10 #[rv a1, iv ci] [(.int (0 : Int32)), (.ref x)])
  obtain ⟨_, _, ⟨T5, L5, k5, n5⟩, -, X5, ⟨Lc5, hQ5, l5, y5, z5⟩, st5⟩ := Jvm.LawKit.callS X4 hx (y := (⟨"java/util/Arrays", "copyOf", "([II)[I"⟩ : MethodName)) hown (mvT hZ (hw _ (List.mem_of_getElem? (i := 21) rfl))) (mvT hZ (hw _ (List.mem_of_getElem? (i := 22) rfl))) (mvT hZ (hw _ (List.mem_of_getElem? (i := 23) rfl))) (mvT hZ (hw _ (List.mem_of_getElem? (i := 24) rfl))) (by decide) (backOf (W := 0) (rmCp1_0 l Z a0 hw [] x d0 kx h0 n0 Z0 V_x) hZ (hw _ (List.mem_of_getElem? (i := 24) rfl)) (hw _ (List.mem_of_getElem? (i := 23) rfl)) (by decide) (by decide)) (g := (mkF m 10 #[rv a1, iv ci] [(.int (0 : Int32)), (.ref x)])) rfl (by rw [hml]; rfl) (argsL := [(.ref x), (.int (0 : Int32))]) (rest := []) (lenOf pd__28_5bII_29_5bI rfl) rfl (by show 2 * 0 + _ ≤ _; exact Nat.le_of_eq rfl) (hb hby d3_10) (fun _ _ => ⟨rfl, e4, (by decide : 0 + 1 ≤ _), (by decide : 0 + 4 ≤ _)⟩)
  dsimp only [Pt.U, Pt.locs, Pt.cells, Pt.slots] at X5 l5 y5 z5 st5 hQ5
  subst l5 y5 z5
  obtain ⟨r5, kr5, rfl, N5q, E5, gr5, Vr5, A5⟩ := hQ5
  have N5 := Fr.app N0 N5q
  refine Goes.step ?_ st5
  have Zs5 : n0 ≤ T5.heap.size := Nat.le_trans Z0 E5.1
  show Goes p e below _ (sF T5 m 13 #[rv a1, iv ci] [(.ref r5)])
  refine own_out X5 hx hlk hret rfl (Or.inr (Or.inr (Or.inr (Or.inr ⟨rfl, rfl, rfl⟩)))) (hb hby d3_13) ?_ (by decide) (by decide)
  show QCp Z (0 : Int32) [] h0 n0 _ T5.heap _
  exact ⟨r5, kr5, rfl, N5, E5, gr5, Vr5, A5⟩
theorem ef_col1 (m : MethodId) (x0 : Addr) (x1 : Int32) : entryFrame m #[(.ref x0), (.int x1)] 2 = mkF m 0 #[rv x0, iv x1] [] := by first | (simp [entryFrame, mkF, argsToLocals, Value.category]; done) | rfl
set_option maxRecDepth 65536 in
set_option maxHeartbeats 40000000 in
theorem rmCol1 (l : Launch) (Z : State) (a0 : Array Value) (hw : ∀ d ∈ tables_1, d.before a0 Z = true) (ws : List Jvm.Cond) (a1 : Addr) (ci : Int32) (gA : Addr) (kA : ClassId) (z : Int32) (gl : List Value) (x : Addr) (kx : ClassId) (d0 : Int32) (h0 : Heap) (n0 : Nat) (Z0 : n0 ≤ h0.size) (F_columns : Fld Z h0 a1 "com/example/clio/clio/repository/Columns" "columns" "[[I" (.ref gA)) (F_size : Fld Z h0 a1 "com/example/clio/clio/repository/Columns" "size" "I" (.int (1 : Int32))) (V_gA : Arv Z h0 gA kA (.array .int) z gl .null) (hin : ¬ ci < 0 ∧ ci < z) (hel : gl.getD ci.toNatClampNeg .null = .ref x) (V_x : Arv Z h0 x kx .int (1 : Int32) [(.int d0)] (.int (0 : Int32))) (E_x : Exa Z h0 x "[I") :
    MetFree l (⟨"com/example/clio/clio/repository/Columns", "column", "(I)[I"⟩ : MethodName) (head1 (Jvm.Cond.code (⟨"com/example/clio/clio/repository/Columns", "column", "(I)[I"⟩ : MethodName) prog_22_method_4_code 2 (some (.array .int)) :: ws) ({ frames := 2, cells := 1, slots := 4, locals := 32 } : Room)) (fun a U => a = #[(.ref a1), (.int ci)] ∧ Z.Warmed39 U.vm ∧ U.heap = h0) (fun _ _ _ _ _ => True) (fun _ U o U' => ∃ v L, o = .returned v ∧ QCp Z (1 : Int32) [(.int d0)] h0 n0 v U'.heap L ∧ FrameEnd U o U' L ({ frames := 2, cells := 1, slots := 4, locals := 32 } : Room).cells ({ frames := 2, cells := 1, slots := 4, locals := 32 } : Room).slots) := by
  refine MetFree.of_bodySF (plainFor_of_name pn_com_example_clio_clio_repository_Columns) hisR ?_
  intro p e s m args below meth c s₁ Bd hml0 hP hK
  obtain ⟨rfl, hZ, hh⟩ := hP
  have hx := Bd.exec
  have hby := Bd.bytes
  have hlk : meth.locks = false := BodyLoose.notSynchronized Bd
  have hml : c.maxLocals = 2 := hml0
  have hown : s.vm.findClass "com/example/clio/clio/repository/Columns" = some m.cls := findClass_of_methodNamed Bd.named
  have hnm := (name_of_methodNamed Bd.named Bd.method).1
  have X0 : Stand p l e ({ frames := 2, cells := 1, slots := 4, locals := 32 } : Room) s m #[(.ref a1), (.int ci)] below meth c s₁ [] 0 0 := Stand.of_body Bd
  have e0 : s₁.heap = h0 := by rw [← hh, Bd.state]; rfl
  have N0 := Fr.nil n0
  have hret := Bd.returns
  show Goes p e below (fun o U' => ∃ v L, o = .returned v ∧ QCp Z (1 : Int32) [(.int d0)] h0 n0 v U'.heap L ∧ FrameEnd s o U' L ({ frames := 2, cells := 1, slots := 4, locals := 32 } : Room).cells ({ frames := 2, cells := 1, slots := 4, locals := 32 } : Room).slots) (s₁.setTop (entryFrame m #[(.ref a1), (.int ci)] 2))
  refine Goes.step ?_ (fun _ k => castTop (ef_col1 m a1 ci) k)
  show Goes p e below _ (sF s₁ m 0 #[rv a1, iv ci] [])
  refine Goes.step ?_ (fun _ k => XS.aloadN X0.here hx rfl (hb hby d3_0) rfl rfl k)
  show Goes p e below _ (sF s₁ m 1 #[rv a1, iv ci] [(.ref a1)])
  obtain ⟨T1, X1, e1, st1⟩ := getF X0 hx hZ hown (host := "") (Or.inl (hw _ (List.mem_of_getElem? (i := 12) rfl))) Via.refl e0 F_columns (g := (mkF m 1 #[rv a1, iv ci] [(.ref a1)])) rfl rfl (hb hby d3_1)
  refine Goes.step ?_ st1
  show Goes p e below _ (sF T1 m 4 #[rv a1, iv ci] [(.ref gA)])
  refine Goes.step ?_ (fun _ k => XS.iloadN X1.here hx rfl (hb hby d3_4) rfl  k)
  show Goes p e below _ (sF T1 m 5 #[rv a1, iv ci] [(.int ci), (.ref gA)])
  obtain ⟨cl2, Ar2, q2, S2, N_2, H2, G2⟩ := id V_gA
  have hin3 : ¬ (ci < 0 ∨ cl2.slots.size ≤ (ci).toNatClampNeg) := inb_of S2 hin
  have hat3 : cl2.slots[(ci).toNatClampNeg]? = some (.ref x) := H2.at hin3 hel
  refine Goes.step ?_ (fun _ k => X1.aaload hx (j := ci) (v := (.ref x)) (by rw [e1]; exact Ar2.1) (State.isArrayOf_alike hZ.alike Ar2.2.1) rfl Ar2.2.2 hin3 hat3 (g := (mkF m 5 #[rv a1, iv ci] [(.int ci), (.ref gA)])) rfl rfl (hb hby d3_5) _ k)
  show Goes p e below _ (sF T1 m 6 #[rv a1, iv ci] [(.ref x)])
  refine Goes.step ?_ (fun _ k => XS.aloadN X1.here hx rfl (hb hby d3_6) rfl rfl k)
  show Goes p e below _ (sF T1 m 7 #[rv a1, iv ci] [(.ref a1), (.ref x)])
  obtain ⟨T4, X4, e4, st4⟩ := getF X1 hx hZ hown (host := "") (Or.inl (hw _ (List.mem_of_getElem? (i := 19) rfl))) Via.refl e1 F_size (g := (mkF m 7 #[rv a1, iv ci] [(.ref a1), (.ref x)])) rfl rfl (hb hby d3_7)
  refine Goes.step ?_ st4
  show Goes p e below _ (sF T4 m 10 #[rv a1, iv ci] [(.int (1 : Int32)), (.ref x)])
  obtain ⟨_, _, ⟨T5, L5, k5, n5⟩, -, X5, ⟨Lc5, hQ5, l5, y5, z5⟩, st5⟩ := Jvm.LawKit.callS X4 hx (y := (⟨"java/util/Arrays", "copyOf", "([II)[I"⟩ : MethodName)) hown (mvT hZ (hw _ (List.mem_of_getElem? (i := 21) rfl))) (mvT hZ (hw _ (List.mem_of_getElem? (i := 22) rfl))) (mvT hZ (hw _ (List.mem_of_getElem? (i := 23) rfl))) (mvT hZ (hw _ (List.mem_of_getElem? (i := 24) rfl))) (by decide) (backOf (W := 0) (rmCp1_1 l Z a0 hw [] x d0 kx h0 n0 Z0 V_x E_x) hZ (hw _ (List.mem_of_getElem? (i := 24) rfl)) (hw _ (List.mem_of_getElem? (i := 23) rfl)) (by decide) (by decide)) (g := (mkF m 10 #[rv a1, iv ci] [(.int (1 : Int32)), (.ref x)])) rfl (by rw [hml]; rfl) (argsL := [(.ref x), (.int (1 : Int32))]) (rest := []) (lenOf pd__28_5bII_29_5bI rfl) rfl (by show 2 * 0 + _ ≤ _; exact Nat.le_of_eq rfl) (hb hby d3_10) (fun _ _ => ⟨rfl, e4, (by decide : 0 + 1 ≤ _), (by decide : 0 + 4 ≤ _)⟩)
  dsimp only [Pt.U, Pt.locs, Pt.cells, Pt.slots] at X5 l5 y5 z5 st5 hQ5
  subst l5 y5 z5
  obtain ⟨r5, kr5, rfl, N5q, E5, gr5, Vr5, A5⟩ := hQ5
  have N5 := Fr.app N0 N5q
  refine Goes.step ?_ st5
  have Zs5 : n0 ≤ T5.heap.size := Nat.le_trans Z0 E5.1
  show Goes p e below _ (sF T5 m 13 #[rv a1, iv ci] [(.ref r5)])
  refine own_out X5 hx hlk hret rfl (Or.inr (Or.inr (Or.inr (Or.inr ⟨rfl, rfl, rfl⟩)))) (hb hby d3_13) ?_ (by decide) (by decide)
  show QCp Z (1 : Int32) [(.int d0)] h0 n0 _ T5.heap _
  exact ⟨r5, kr5, rfl, N5, E5, gr5, Vr5, A5⟩
theorem ef_col2 (m : MethodId) (x0 : Addr) (x1 : Int32) : entryFrame m #[(.ref x0), (.int x1)] 2 = mkF m 0 #[rv x0, iv x1] [] := by first | (simp [entryFrame, mkF, argsToLocals, Value.category]; done) | rfl
set_option maxRecDepth 65536 in
set_option maxHeartbeats 40000000 in
theorem rmCol2 (l : Launch) (Z : State) (a0 : Array Value) (hw : ∀ d ∈ tables_1, d.before a0 Z = true) (ws : List Jvm.Cond) (a1 : Addr) (ci : Int32) (gA : Addr) (kA : ClassId) (z : Int32) (gl : List Value) (x : Addr) (kx : ClassId) (d0 : Int32) (d1 : Int32) (h0 : Heap) (n0 : Nat) (Z0 : n0 ≤ h0.size) (F_columns : Fld Z h0 a1 "com/example/clio/clio/repository/Columns" "columns" "[[I" (.ref gA)) (F_size : Fld Z h0 a1 "com/example/clio/clio/repository/Columns" "size" "I" (.int (2 : Int32))) (V_gA : Arv Z h0 gA kA (.array .int) z gl .null) (hin : ¬ ci < 0 ∧ ci < z) (hel : gl.getD ci.toNatClampNeg .null = .ref x) (V_x : Arv Z h0 x kx .int (2 : Int32) [(.int d0), (.int d1)] (.int (0 : Int32))) (E_x : Exa Z h0 x "[I") :
    MetFree l (⟨"com/example/clio/clio/repository/Columns", "column", "(I)[I"⟩ : MethodName) (head1 (Jvm.Cond.code (⟨"com/example/clio/clio/repository/Columns", "column", "(I)[I"⟩ : MethodName) prog_22_method_4_code 2 (some (.array .int)) :: ws) ({ frames := 2, cells := 1, slots := 4, locals := 32 } : Room)) (fun a U => a = #[(.ref a1), (.int ci)] ∧ Z.Warmed39 U.vm ∧ U.heap = h0) (fun _ _ _ _ _ => True) (fun _ U o U' => ∃ v L, o = .returned v ∧ QCp Z (2 : Int32) [(.int d0), (.int d1)] h0 n0 v U'.heap L ∧ FrameEnd U o U' L ({ frames := 2, cells := 1, slots := 4, locals := 32 } : Room).cells ({ frames := 2, cells := 1, slots := 4, locals := 32 } : Room).slots) := by
  refine MetFree.of_bodySF (plainFor_of_name pn_com_example_clio_clio_repository_Columns) hisR ?_
  intro p e s m args below meth c s₁ Bd hml0 hP hK
  obtain ⟨rfl, hZ, hh⟩ := hP
  have hx := Bd.exec
  have hby := Bd.bytes
  have hlk : meth.locks = false := BodyLoose.notSynchronized Bd
  have hml : c.maxLocals = 2 := hml0
  have hown : s.vm.findClass "com/example/clio/clio/repository/Columns" = some m.cls := findClass_of_methodNamed Bd.named
  have hnm := (name_of_methodNamed Bd.named Bd.method).1
  have X0 : Stand p l e ({ frames := 2, cells := 1, slots := 4, locals := 32 } : Room) s m #[(.ref a1), (.int ci)] below meth c s₁ [] 0 0 := Stand.of_body Bd
  have e0 : s₁.heap = h0 := by rw [← hh, Bd.state]; rfl
  have N0 := Fr.nil n0
  have hret := Bd.returns
  show Goes p e below (fun o U' => ∃ v L, o = .returned v ∧ QCp Z (2 : Int32) [(.int d0), (.int d1)] h0 n0 v U'.heap L ∧ FrameEnd s o U' L ({ frames := 2, cells := 1, slots := 4, locals := 32 } : Room).cells ({ frames := 2, cells := 1, slots := 4, locals := 32 } : Room).slots) (s₁.setTop (entryFrame m #[(.ref a1), (.int ci)] 2))
  refine Goes.step ?_ (fun _ k => castTop (ef_col2 m a1 ci) k)
  show Goes p e below _ (sF s₁ m 0 #[rv a1, iv ci] [])
  refine Goes.step ?_ (fun _ k => XS.aloadN X0.here hx rfl (hb hby d3_0) rfl rfl k)
  show Goes p e below _ (sF s₁ m 1 #[rv a1, iv ci] [(.ref a1)])
  obtain ⟨T1, X1, e1, st1⟩ := getF X0 hx hZ hown (host := "") (Or.inl (hw _ (List.mem_of_getElem? (i := 12) rfl))) Via.refl e0 F_columns (g := (mkF m 1 #[rv a1, iv ci] [(.ref a1)])) rfl rfl (hb hby d3_1)
  refine Goes.step ?_ st1
  show Goes p e below _ (sF T1 m 4 #[rv a1, iv ci] [(.ref gA)])
  refine Goes.step ?_ (fun _ k => XS.iloadN X1.here hx rfl (hb hby d3_4) rfl  k)
  show Goes p e below _ (sF T1 m 5 #[rv a1, iv ci] [(.int ci), (.ref gA)])
  obtain ⟨cl2, Ar2, q2, S2, N_2, H2, G2⟩ := id V_gA
  have hin3 : ¬ (ci < 0 ∨ cl2.slots.size ≤ (ci).toNatClampNeg) := inb_of S2 hin
  have hat3 : cl2.slots[(ci).toNatClampNeg]? = some (.ref x) := H2.at hin3 hel
  refine Goes.step ?_ (fun _ k => X1.aaload hx (j := ci) (v := (.ref x)) (by rw [e1]; exact Ar2.1) (State.isArrayOf_alike hZ.alike Ar2.2.1) rfl Ar2.2.2 hin3 hat3 (g := (mkF m 5 #[rv a1, iv ci] [(.int ci), (.ref gA)])) rfl rfl (hb hby d3_5) _ k)
  show Goes p e below _ (sF T1 m 6 #[rv a1, iv ci] [(.ref x)])
  refine Goes.step ?_ (fun _ k => XS.aloadN X1.here hx rfl (hb hby d3_6) rfl rfl k)
  show Goes p e below _ (sF T1 m 7 #[rv a1, iv ci] [(.ref a1), (.ref x)])
  obtain ⟨T4, X4, e4, st4⟩ := getF X1 hx hZ hown (host := "") (Or.inl (hw _ (List.mem_of_getElem? (i := 19) rfl))) Via.refl e1 F_size (g := (mkF m 7 #[rv a1, iv ci] [(.ref a1), (.ref x)])) rfl rfl (hb hby d3_7)
  refine Goes.step ?_ st4
  show Goes p e below _ (sF T4 m 10 #[rv a1, iv ci] [(.int (2 : Int32)), (.ref x)])
  obtain ⟨_, _, ⟨T5, L5, k5, n5⟩, -, X5, ⟨Lc5, hQ5, l5, y5, z5⟩, st5⟩ := Jvm.LawKit.callS X4 hx (y := (⟨"java/util/Arrays", "copyOf", "([II)[I"⟩ : MethodName)) hown (mvT hZ (hw _ (List.mem_of_getElem? (i := 21) rfl))) (mvT hZ (hw _ (List.mem_of_getElem? (i := 22) rfl))) (mvT hZ (hw _ (List.mem_of_getElem? (i := 23) rfl))) (mvT hZ (hw _ (List.mem_of_getElem? (i := 24) rfl))) (by decide) (backOf (W := 0) (rmCp2_2 l Z a0 hw [] x d0 d1 kx h0 n0 Z0 V_x E_x) hZ (hw _ (List.mem_of_getElem? (i := 24) rfl)) (hw _ (List.mem_of_getElem? (i := 23) rfl)) (by decide) (by decide)) (g := (mkF m 10 #[rv a1, iv ci] [(.int (2 : Int32)), (.ref x)])) rfl (by rw [hml]; rfl) (argsL := [(.ref x), (.int (2 : Int32))]) (rest := []) (lenOf pd__28_5bII_29_5bI rfl) rfl (by show 2 * 0 + _ ≤ _; exact Nat.le_of_eq rfl) (hb hby d3_10) (fun _ _ => ⟨rfl, e4, (by decide : 0 + 1 ≤ _), (by decide : 0 + 4 ≤ _)⟩)
  dsimp only [Pt.U, Pt.locs, Pt.cells, Pt.slots] at X5 l5 y5 z5 st5 hQ5
  subst l5 y5 z5
  obtain ⟨r5, kr5, rfl, N5q, E5, gr5, Vr5, A5⟩ := hQ5
  have N5 := Fr.app N0 N5q
  refine Goes.step ?_ st5
  have Zs5 : n0 ≤ T5.heap.size := Nat.le_trans Z0 E5.1
  show Goes p e below _ (sF T5 m 13 #[rv a1, iv ci] [(.ref r5)])
  refine own_out X5 hx hlk hret rfl (Or.inr (Or.inr (Or.inr (Or.inr ⟨rfl, rfl, rfl⟩)))) (hb hby d3_13) ?_ (by decide) (by decide)
  show QCp Z (2 : Int32) [(.int d0), (.int d1)] h0 n0 _ T5.heap _
  exact ⟨r5, kr5, rfl, N5, E5, gr5, Vr5, A5⟩
theorem ef_col3 (m : MethodId) (x0 : Addr) (x1 : Int32) : entryFrame m #[(.ref x0), (.int x1)] 2 = mkF m 0 #[rv x0, iv x1] [] := by first | (simp [entryFrame, mkF, argsToLocals, Value.category]; done) | rfl
set_option maxRecDepth 65536 in
set_option maxHeartbeats 40000000 in
theorem rmCol3 (l : Launch) (Z : State) (a0 : Array Value) (hw : ∀ d ∈ tables_1, d.before a0 Z = true) (ws : List Jvm.Cond) (a1 : Addr) (ci : Int32) (gA : Addr) (kA : ClassId) (z : Int32) (gl : List Value) (x : Addr) (kx : ClassId) (d0 : Int32) (d1 : Int32) (d2 : Int32) (d3 : Int32) (h0 : Heap) (n0 : Nat) (Z0 : n0 ≤ h0.size) (F_columns : Fld Z h0 a1 "com/example/clio/clio/repository/Columns" "columns" "[[I" (.ref gA)) (F_size : Fld Z h0 a1 "com/example/clio/clio/repository/Columns" "size" "I" (.int (3 : Int32))) (V_gA : Arv Z h0 gA kA (.array .int) z gl .null) (hin : ¬ ci < 0 ∧ ci < z) (hel : gl.getD ci.toNatClampNeg .null = .ref x) (V_x : Arv Z h0 x kx .int (4 : Int32) [(.int d0), (.int d1), (.int d2), (.int d3)] (.int (0 : Int32))) (E_x : Exa Z h0 x "[I") :
    MetFree l (⟨"com/example/clio/clio/repository/Columns", "column", "(I)[I"⟩ : MethodName) (head1 (Jvm.Cond.code (⟨"com/example/clio/clio/repository/Columns", "column", "(I)[I"⟩ : MethodName) prog_22_method_4_code 2 (some (.array .int)) :: ws) ({ frames := 2, cells := 1, slots := 4, locals := 32 } : Room)) (fun a U => a = #[(.ref a1), (.int ci)] ∧ Z.Warmed39 U.vm ∧ U.heap = h0) (fun _ _ _ _ _ => True) (fun _ U o U' => ∃ v L, o = .returned v ∧ QCp Z (3 : Int32) [(.int d0), (.int d1), (.int d2)] h0 n0 v U'.heap L ∧ FrameEnd U o U' L ({ frames := 2, cells := 1, slots := 4, locals := 32 } : Room).cells ({ frames := 2, cells := 1, slots := 4, locals := 32 } : Room).slots) := by
  refine MetFree.of_bodySF (plainFor_of_name pn_com_example_clio_clio_repository_Columns) hisR ?_
  intro p e s m args below meth c s₁ Bd hml0 hP hK
  obtain ⟨rfl, hZ, hh⟩ := hP
  have hx := Bd.exec
  have hby := Bd.bytes
  have hlk : meth.locks = false := BodyLoose.notSynchronized Bd
  have hml : c.maxLocals = 2 := hml0
  have hown : s.vm.findClass "com/example/clio/clio/repository/Columns" = some m.cls := findClass_of_methodNamed Bd.named
  have hnm := (name_of_methodNamed Bd.named Bd.method).1
  have X0 : Stand p l e ({ frames := 2, cells := 1, slots := 4, locals := 32 } : Room) s m #[(.ref a1), (.int ci)] below meth c s₁ [] 0 0 := Stand.of_body Bd
  have e0 : s₁.heap = h0 := by rw [← hh, Bd.state]; rfl
  have N0 := Fr.nil n0
  have hret := Bd.returns
  show Goes p e below (fun o U' => ∃ v L, o = .returned v ∧ QCp Z (3 : Int32) [(.int d0), (.int d1), (.int d2)] h0 n0 v U'.heap L ∧ FrameEnd s o U' L ({ frames := 2, cells := 1, slots := 4, locals := 32 } : Room).cells ({ frames := 2, cells := 1, slots := 4, locals := 32 } : Room).slots) (s₁.setTop (entryFrame m #[(.ref a1), (.int ci)] 2))
  refine Goes.step ?_ (fun _ k => castTop (ef_col3 m a1 ci) k)
  show Goes p e below _ (sF s₁ m 0 #[rv a1, iv ci] [])
  refine Goes.step ?_ (fun _ k => XS.aloadN X0.here hx rfl (hb hby d3_0) rfl rfl k)
  show Goes p e below _ (sF s₁ m 1 #[rv a1, iv ci] [(.ref a1)])
  obtain ⟨T1, X1, e1, st1⟩ := getF X0 hx hZ hown (host := "") (Or.inl (hw _ (List.mem_of_getElem? (i := 12) rfl))) Via.refl e0 F_columns (g := (mkF m 1 #[rv a1, iv ci] [(.ref a1)])) rfl rfl (hb hby d3_1)
  refine Goes.step ?_ st1
  show Goes p e below _ (sF T1 m 4 #[rv a1, iv ci] [(.ref gA)])
  refine Goes.step ?_ (fun _ k => XS.iloadN X1.here hx rfl (hb hby d3_4) rfl  k)
  show Goes p e below _ (sF T1 m 5 #[rv a1, iv ci] [(.int ci), (.ref gA)])
  obtain ⟨cl2, Ar2, q2, S2, N_2, H2, G2⟩ := id V_gA
  have hin3 : ¬ (ci < 0 ∨ cl2.slots.size ≤ (ci).toNatClampNeg) := inb_of S2 hin
  have hat3 : cl2.slots[(ci).toNatClampNeg]? = some (.ref x) := H2.at hin3 hel
  refine Goes.step ?_ (fun _ k => X1.aaload hx (j := ci) (v := (.ref x)) (by rw [e1]; exact Ar2.1) (State.isArrayOf_alike hZ.alike Ar2.2.1) rfl Ar2.2.2 hin3 hat3 (g := (mkF m 5 #[rv a1, iv ci] [(.int ci), (.ref gA)])) rfl rfl (hb hby d3_5) _ k)
  show Goes p e below _ (sF T1 m 6 #[rv a1, iv ci] [(.ref x)])
  refine Goes.step ?_ (fun _ k => XS.aloadN X1.here hx rfl (hb hby d3_6) rfl rfl k)
  show Goes p e below _ (sF T1 m 7 #[rv a1, iv ci] [(.ref a1), (.ref x)])
  obtain ⟨T4, X4, e4, st4⟩ := getF X1 hx hZ hown (host := "") (Or.inl (hw _ (List.mem_of_getElem? (i := 19) rfl))) Via.refl e1 F_size (g := (mkF m 7 #[rv a1, iv ci] [(.ref a1), (.ref x)])) rfl rfl (hb hby d3_7)
  refine Goes.step ?_ st4
  show Goes p e below _ (sF T4 m 10 #[rv a1, iv ci] [(.int (3 : Int32)), (.ref x)])
  obtain ⟨_, _, ⟨T5, L5, k5, n5⟩, -, X5, ⟨Lc5, hQ5, l5, y5, z5⟩, st5⟩ := Jvm.LawKit.callS X4 hx (y := (⟨"java/util/Arrays", "copyOf", "([II)[I"⟩ : MethodName)) hown (mvT hZ (hw _ (List.mem_of_getElem? (i := 21) rfl))) (mvT hZ (hw _ (List.mem_of_getElem? (i := 22) rfl))) (mvT hZ (hw _ (List.mem_of_getElem? (i := 23) rfl))) (mvT hZ (hw _ (List.mem_of_getElem? (i := 24) rfl))) (by decide) (backOf (W := 0) (rmCp4_3 l Z a0 hw [] x d0 d1 d2 d3 kx h0 n0 Z0 V_x) hZ (hw _ (List.mem_of_getElem? (i := 24) rfl)) (hw _ (List.mem_of_getElem? (i := 23) rfl)) (by decide) (by decide)) (g := (mkF m 10 #[rv a1, iv ci] [(.int (3 : Int32)), (.ref x)])) rfl (by rw [hml]; rfl) (argsL := [(.ref x), (.int (3 : Int32))]) (rest := []) (lenOf pd__28_5bII_29_5bI rfl) rfl (by show 2 * 0 + _ ≤ _; exact Nat.le_of_eq rfl) (hb hby d3_10) (fun _ _ => ⟨rfl, e4, (by decide : 0 + 1 ≤ _), (by decide : 0 + 4 ≤ _)⟩)
  dsimp only [Pt.U, Pt.locs, Pt.cells, Pt.slots] at X5 l5 y5 z5 st5 hQ5
  subst l5 y5 z5
  obtain ⟨r5, kr5, rfl, N5q, E5, gr5, Vr5, A5⟩ := hQ5
  have N5 := Fr.app N0 N5q
  refine Goes.step ?_ st5
  have Zs5 : n0 ≤ T5.heap.size := Nat.le_trans Z0 E5.1
  show Goes p e below _ (sF T5 m 13 #[rv a1, iv ci] [(.ref r5)])
  refine own_out X5 hx hlk hret rfl (Or.inr (Or.inr (Or.inr (Or.inr ⟨rfl, rfl, rfl⟩)))) (hb hby d3_13) ?_ (by decide) (by decide)
  show QCp Z (3 : Int32) [(.int d0), (.int d1), (.int d2)] h0 n0 _ T5.heap _
  exact ⟨r5, kr5, rfl, N5, E5, gr5, Vr5, A5⟩
theorem ef_new1 (m : MethodId) (x0 : Addr) (x1 : Int32) : entryFrame m #[(.ref x0), (.int x1)] 2 = mkF m 0 #[rv x0, iv x1] [] := by first | (simp [entryFrame, mkF, argsToLocals, Value.category]; done) | rfl
def QNew1 (Z : State) (a1 : Addr) (h0 : Heap) (n0 : Nat) (v : Option Value) (h : Heap) (L : List Loc) : Prop := ∃ (gA x0 : Addr) (kA kx : ClassId), v = none ∧ Fr n0 L ∧ Keep h0 h [a1] ∧ Fld Z h a1 "com/example/clio/clio/repository/Columns" "columns" "[[I" (.ref gA) ∧ Fld Z h a1 "com/example/clio/clio/repository/Columns" "size" "I" (.int (0 : Int32)) ∧ Arv Z h gA kA (.array .int) (1 : Int32) [(.ref x0)] .null ∧ OvrA Z kA .int "[I" ∧ h0.size ≤ gA ∧ h0.size ≤ x0 ∧ Arv Z h x0 kx .int (1 : Int32) [(.int (0 : Int32))] (.int (0 : Int32)) ∧ Exa Z h x0 "[I" ∧ gA ≠ x0
theorem d1_0 : decode prog_22_method_1_code 0 = .ok (.aload_n 0, 1) := by decide +kernel
theorem d1_1 : decode prog_22_method_1_code 1 = .ok (.invokespecial 1, 3) := by decide +kernel
theorem d1_4 : decode prog_22_method_1_code 4 = .ok (.aload_n 0, 1) := by decide +kernel
theorem d1_5 : decode prog_22_method_1_code 5 = .ok (.iload_n 1, 1) := by decide +kernel
theorem d1_6 : decode prog_22_method_1_code 6 = .ok (.iconst 1, 1) := by decide +kernel
theorem d_multi : decode prog_22_method_1_code 7 = .ok (.multianewarray 7 2, 4) := by decide +kernel
theorem d1_11 : decode prog_22_method_1_code 11 = .ok (.putfield 9, 3) := by decide +kernel
theorem d1_14 : decode prog_22_method_1_code 14 = .ok (.return_, 1) := by decide +kernel
set_option maxRecDepth 65536 in
set_option maxHeartbeats 40000000 in
theorem rmNew1 (l : Launch) (Z : State) (a0 : Array Value) (hw : ∀ d ∈ tables_1, d.before a0 Z = true) (ws : List Jvm.Cond) (a1 : Addr) (h0 : Heap) (n0 : Nat) (Z0 : n0 ≤ h0.size) (F_columns : Fld Z h0 a1 "com/example/clio/clio/repository/Columns" "columns" "[[I" .null) (F_size : Fld Z h0 a1 "com/example/clio/clio/repository/Columns" "size" "I" (.int (0 : Int32))) (E_a1 : Exa Z h0 a1 "com/example/clio/clio/repository/Columns") (g_a1 : n0 ≤ a1) :
    MetFree l (⟨"com/example/clio/clio/repository/Columns", "<init>", "(I)V"⟩ : MethodName) (head1 (Jvm.Cond.code (⟨"com/example/clio/clio/repository/Columns", "<init>", "(I)V"⟩ : MethodName) prog_22_method_1_code 2 none :: ws) ({ frames := 1, cells := 2, slots := 2, locals := 12 } : Room)) (fun a U => a = #[(.ref a1), (.int (1 : Int32))] ∧ Z.Warmed39 U.vm ∧ U.heap = h0) (fun _ _ _ _ _ => True) (fun _ U o U' => ∃ v L, o = .returned v ∧ QNew1 Z a1 h0 n0 v U'.heap L ∧ FrameEnd U o U' L ({ frames := 1, cells := 2, slots := 2, locals := 12 } : Room).cells ({ frames := 1, cells := 2, slots := 2, locals := 12 } : Room).slots) := by
  refine MetFree.of_bodySF (plainFor_of_name pn_com_example_clio_clio_repository_Columns) hisR ?_
  intro p e s m args below meth c s₁ Bd hml0 hP hK
  obtain ⟨rfl, hZ, hh⟩ := hP
  have hx := Bd.exec
  have hby := Bd.bytes
  have hlk : meth.locks = false := BodyLoose.notSynchronized Bd
  have hml : c.maxLocals = 2 := hml0
  have hown : s.vm.findClass "com/example/clio/clio/repository/Columns" = some m.cls := findClass_of_methodNamed Bd.named
  have hnm := (name_of_methodNamed Bd.named Bd.method).1
  have X0 : Stand p l e ({ frames := 1, cells := 2, slots := 2, locals := 12 } : Room) s m #[(.ref a1), (.int (1 : Int32))] below meth c s₁ [] 0 0 := Stand.of_body Bd
  have e0 : s₁.heap = h0 := by rw [← hh, Bd.state]; rfl
  have N0 := Fr.nil n0
  have hret := Bd.returns
  show Goes p e below (fun o U' => ∃ v L, o = .returned v ∧ QNew1 Z a1 h0 n0 v U'.heap L ∧ FrameEnd s o U' L ({ frames := 1, cells := 2, slots := 2, locals := 12 } : Room).cells ({ frames := 1, cells := 2, slots := 2, locals := 12 } : Room).slots) (s₁.setTop (entryFrame m #[(.ref a1), (.int (1 : Int32))] 2))
  refine Goes.step ?_ (fun _ k => castTop (ef_new1 m a1 (1 : Int32)) k)
  show Goes p e below _ (sF s₁ m 0 #[rv a1, iv (1 : Int32)] [])
  refine Goes.step ?_ (fun _ k => XS.aloadN X0.here hx rfl (hb hby d1_0) rfl rfl k)
  show Goes p e below _ (sF s₁ m 1 #[rv a1, iv (1 : Int32)] [(.ref a1)])
  obtain ⟨T1, X1, e1, st1⟩ := initO X0 hx hZ hown (hw _ (List.mem_of_getElem? (i := 7) rfl)) (hw _ (List.mem_of_getElem? (i := 8) rfl)) (hw _ (List.mem_of_getElem? (i := 9) rfl)) e0 (g := (mkF m 1 #[rv a1, iv (1 : Int32)] [(.ref a1)])) rfl (by rw [hml]; rfl) rfl (hb hby d1_1) (by decide) (W := 0) (by show 2 * 0 + _ ≤ _; exact Nat.le_of_eq rfl) (by decide)
  refine Goes.step ?_ st1
  show Goes p e below _ (sF T1 m 4 #[rv a1, iv (1 : Int32)] [])
  refine Goes.step ?_ (fun _ k => XS.aloadN X1.here hx rfl (hb hby d1_4) rfl rfl k)
  show Goes p e below _ (sF T1 m 5 #[rv a1, iv (1 : Int32)] [(.ref a1)])
  refine Goes.step ?_ (fun _ k => XS.iloadN X1.here hx rfl (hb hby d1_5) rfl  k)
  show Goes p e below _ (sF T1 m 6 #[rv a1, iv (1 : Int32)] [(.int (1 : Int32)), (.ref a1)])
  refine Goes.step ?_ (fun _ k => XS.iconst X1.here hx rfl (hb hby d1_6) k)
  show Goes p e below _ (sF T1 m 7 #[rv a1, iv (1 : Int32)] [(.int (1 : Int32)), (.int (1 : Int32)), (.ref a1)])
  obtain ⟨T2, h2, kA, kx, X2, e2, E2, Vg2, Og2, -, Hx2, st2⟩ := gridM X1 hx hZ hown (C := "[I") (ad := "[[I") (ty := .int) (by decide) (by decide) (hw _ (List.mem_of_getElem? (i := 10) rfl)) (hw _ (List.mem_of_getElem? (i := 11) rfl)) (hw _ (List.mem_of_getElem? (i := 0) rfl)) e1 (g := (mkF m 7 #[rv a1, iv (1 : Int32)] [(.int (1 : Int32)), (.int (1 : Int32)), (.ref a1)])) rfl (hb hby d_multi) rfl (by decide) (by decide) (xs := [h0.size + 1 + 0]) (N := 1) (by decide) rfl (cap := 1) (by decide) (by decide) (by decide) rfl rfl (by decide) (by decide)
  obtain ⟨gA, gg⟩ : ∃ z, z = h0.size := ⟨_, rfl⟩
  obtain ⟨x0, gx0⟩ : ∃ z, z = h0.size + 1 + 0 := ⟨_, rfl⟩
  obtain ⟨Ax0, Ex0⟩ := Hx2 0 x0 (by rw [gx0]; rfl)
  have Vx0 : Arv Z h2 x0 kx .int (1 : Int32) [(.int (0 : Int32))] (.int (0 : Int32)) := (Arv.new Ax0 (by decide)).pad (pad_rep [] (.int (0 : Int32)) 1)
  have Vg : Arv Z h2 gA kA (.array .int) (1 : Int32) [(.ref x0)] .null := by rw [gg, gx0]; exact Vg2
  rw [← gg] at st2
  have sz_gA : h0.size ≤ gA := by rw [gg]; omega
  have ne_a1_gA : a1 ≠ gA := Nat.ne_of_lt (Nat.lt_of_lt_of_le E_a1.lt sz_gA)
  have sz_x0 : h0.size ≤ x0 := by rw [gx0]; omega
  have ne_a1_x0 : a1 ≠ x0 := Nat.ne_of_lt (Nat.lt_of_lt_of_le E_a1.lt sz_x0)
  have Zs2 : n0 ≤ h2.size := Nat.le_trans Z0 E2.1
  refine Goes.step ?_ st2
  show Goes p e below _ (sF T2 m 11 #[rv a1, iv (1 : Int32)] [(.ref gA), (.ref a1)])
  have F_a1_columns_4 := (F_columns.ext E2)
  have E_a1_5 := (E_a1.ext E2)
  obtain ⟨T3, h3, X3, e3, W3, st3⟩ := putF X2 hx hZ hown (host := "") (Or.inl (hw _ (List.mem_of_getElem? (i := 12) rfl))) Via.refl e2 F_a1_columns_4 E_a1_5 (Or.inr ⟨(hw _ (List.mem_of_getElem? (i := 13) rfl)), rfl, hnm⟩) (hw _ (List.mem_of_getElem? (i := 2) rfl)) (ty := (.array (.array .int))) (by decide) rfl rfl (g := (mkF m 11 #[rv a1, iv (1 : Int32)] [(.ref gA), (.ref a1)])) rfl rfl (hb hby d1_11)
  have Fw3 := F_a1_columns_4.same W3
  have Zs3 : n0 ≤ h3.size := Nat.le_trans Zs2 (Keep.of_wr W3).1
  have N3 := Fr.snoc X3 N0 g_a1
  refine Goes.step ?_ st3
  show Goes p e below _ (sF T3 m 14 #[rv a1, iv (1 : Int32)] [])
  refine own_outV X3 hx hlk hret (hb hby d1_14) ?_ (by decide) (by decide)
  show QNew1 Z a1 h0 n0 _ T3.heap _
  rw [e3]
  exact ⟨gA, x0, kA, kx, rfl, N3, (((Keep.refl _ _).ext E2).wr W3 (Or.inl (List.mem_of_getElem? (i := 0) rfl))), Fw3, ((F_size.ext E2).other W3 (Or.inr (slot_ne (Or.inl (hw _ (List.mem_of_getElem? (i := 20) rfl))) (Or.inr (hw _ (List.mem_of_getElem? (i := 13) rfl))) (by decide) (t := .int) (t' := (.array (.array .int))) (by decide) (by decide)))), (Vg.other W3 (Ne.symm ne_a1_gA)), Og2, sz_gA, sz_x0, (Vx0.other W3 (Ne.symm ne_a1_x0)), (Ex0.wr W3), by rw [gg, gx0]; exact Nat.ne_of_lt (by omega)⟩
theorem ef_new2 (m : MethodId) (x0 : Addr) (x1 : Int32) : entryFrame m #[(.ref x0), (.int x1)] 2 = mkF m 0 #[rv x0, iv x1] [] := by first | (simp [entryFrame, mkF, argsToLocals, Value.category]; done) | rfl
def QNew2 (Z : State) (a1 : Addr) (h0 : Heap) (n0 : Nat) (v : Option Value) (h : Heap) (L : List Loc) : Prop := ∃ (gA x0 x1 : Addr) (kA kx : ClassId), v = none ∧ Fr n0 L ∧ Keep h0 h [a1] ∧ Fld Z h a1 "com/example/clio/clio/repository/Columns" "columns" "[[I" (.ref gA) ∧ Fld Z h a1 "com/example/clio/clio/repository/Columns" "size" "I" (.int (0 : Int32)) ∧ Arv Z h gA kA (.array .int) (2 : Int32) [(.ref x0), (.ref x1)] .null ∧ OvrA Z kA .int "[I" ∧ h0.size ≤ gA ∧ h0.size ≤ x0 ∧ Arv Z h x0 kx .int (1 : Int32) [(.int (0 : Int32))] (.int (0 : Int32)) ∧ Exa Z h x0 "[I" ∧ h0.size ≤ x1 ∧ Arv Z h x1 kx .int (1 : Int32) [(.int (0 : Int32))] (.int (0 : Int32)) ∧ Exa Z h x1 "[I" ∧ gA ≠ x0 ∧ gA ≠ x1 ∧ x0 ≠ x1
set_option maxRecDepth 65536 in
set_option maxHeartbeats 40000000 in
theorem rmNew2 (l : Launch) (Z : State) (a0 : Array Value) (hw : ∀ d ∈ tables_1, d.before a0 Z = true) (ws : List Jvm.Cond) (a1 : Addr) (h0 : Heap) (n0 : Nat) (Z0 : n0 ≤ h0.size) (F_columns : Fld Z h0 a1 "com/example/clio/clio/repository/Columns" "columns" "[[I" .null) (F_size : Fld Z h0 a1 "com/example/clio/clio/repository/Columns" "size" "I" (.int (0 : Int32))) (E_a1 : Exa Z h0 a1 "com/example/clio/clio/repository/Columns") (g_a1 : n0 ≤ a1) :
    MetFree l (⟨"com/example/clio/clio/repository/Columns", "<init>", "(I)V"⟩ : MethodName) (head1 (Jvm.Cond.code (⟨"com/example/clio/clio/repository/Columns", "<init>", "(I)V"⟩ : MethodName) prog_22_method_1_code 2 none :: ws) ({ frames := 1, cells := 3, slots := 4, locals := 12 } : Room)) (fun a U => a = #[(.ref a1), (.int (2 : Int32))] ∧ Z.Warmed39 U.vm ∧ U.heap = h0) (fun _ _ _ _ _ => True) (fun _ U o U' => ∃ v L, o = .returned v ∧ QNew2 Z a1 h0 n0 v U'.heap L ∧ FrameEnd U o U' L ({ frames := 1, cells := 3, slots := 4, locals := 12 } : Room).cells ({ frames := 1, cells := 3, slots := 4, locals := 12 } : Room).slots) := by
  refine MetFree.of_bodySF (plainFor_of_name pn_com_example_clio_clio_repository_Columns) hisR ?_
  intro p e s m args below meth c s₁ Bd hml0 hP hK
  obtain ⟨rfl, hZ, hh⟩ := hP
  have hx := Bd.exec
  have hby := Bd.bytes
  have hlk : meth.locks = false := BodyLoose.notSynchronized Bd
  have hml : c.maxLocals = 2 := hml0
  have hown : s.vm.findClass "com/example/clio/clio/repository/Columns" = some m.cls := findClass_of_methodNamed Bd.named
  have hnm := (name_of_methodNamed Bd.named Bd.method).1
  have X0 : Stand p l e ({ frames := 1, cells := 3, slots := 4, locals := 12 } : Room) s m #[(.ref a1), (.int (2 : Int32))] below meth c s₁ [] 0 0 := Stand.of_body Bd
  have e0 : s₁.heap = h0 := by rw [← hh, Bd.state]; rfl
  have N0 := Fr.nil n0
  have hret := Bd.returns
  show Goes p e below (fun o U' => ∃ v L, o = .returned v ∧ QNew2 Z a1 h0 n0 v U'.heap L ∧ FrameEnd s o U' L ({ frames := 1, cells := 3, slots := 4, locals := 12 } : Room).cells ({ frames := 1, cells := 3, slots := 4, locals := 12 } : Room).slots) (s₁.setTop (entryFrame m #[(.ref a1), (.int (2 : Int32))] 2))
  refine Goes.step ?_ (fun _ k => castTop (ef_new2 m a1 (2 : Int32)) k)
  show Goes p e below _ (sF s₁ m 0 #[rv a1, iv (2 : Int32)] [])
  refine Goes.step ?_ (fun _ k => XS.aloadN X0.here hx rfl (hb hby d1_0) rfl rfl k)
  show Goes p e below _ (sF s₁ m 1 #[rv a1, iv (2 : Int32)] [(.ref a1)])
  obtain ⟨T1, X1, e1, st1⟩ := initO X0 hx hZ hown (hw _ (List.mem_of_getElem? (i := 7) rfl)) (hw _ (List.mem_of_getElem? (i := 8) rfl)) (hw _ (List.mem_of_getElem? (i := 9) rfl)) e0 (g := (mkF m 1 #[rv a1, iv (2 : Int32)] [(.ref a1)])) rfl (by rw [hml]; rfl) rfl (hb hby d1_1) (by decide) (W := 0) (by show 2 * 0 + _ ≤ _; exact Nat.le_of_eq rfl) (by decide)
  refine Goes.step ?_ st1
  show Goes p e below _ (sF T1 m 4 #[rv a1, iv (2 : Int32)] [])
  refine Goes.step ?_ (fun _ k => XS.aloadN X1.here hx rfl (hb hby d1_4) rfl rfl k)
  show Goes p e below _ (sF T1 m 5 #[rv a1, iv (2 : Int32)] [(.ref a1)])
  refine Goes.step ?_ (fun _ k => XS.iloadN X1.here hx rfl (hb hby d1_5) rfl  k)
  show Goes p e below _ (sF T1 m 6 #[rv a1, iv (2 : Int32)] [(.int (2 : Int32)), (.ref a1)])
  refine Goes.step ?_ (fun _ k => XS.iconst X1.here hx rfl (hb hby d1_6) k)
  show Goes p e below _ (sF T1 m 7 #[rv a1, iv (2 : Int32)] [(.int (1 : Int32)), (.int (2 : Int32)), (.ref a1)])
  obtain ⟨T2, h2, kA, kx, X2, e2, E2, Vg2, Og2, -, Hx2, st2⟩ := gridM X1 hx hZ hown (C := "[I") (ad := "[[I") (ty := .int) (by decide) (by decide) (hw _ (List.mem_of_getElem? (i := 10) rfl)) (hw _ (List.mem_of_getElem? (i := 11) rfl)) (hw _ (List.mem_of_getElem? (i := 0) rfl)) e1 (g := (mkF m 7 #[rv a1, iv (2 : Int32)] [(.int (1 : Int32)), (.int (2 : Int32)), (.ref a1)])) rfl (hb hby d_multi) rfl (by decide) (by decide) (xs := [h0.size + 1 + 0, h0.size + 1 + 1]) (N := 2) (by decide) rfl (cap := 1) (by decide) (by decide) (by decide) rfl rfl (by decide) (by decide)
  obtain ⟨gA, gg⟩ : ∃ z, z = h0.size := ⟨_, rfl⟩
  obtain ⟨x0, gx0⟩ : ∃ z, z = h0.size + 1 + 0 := ⟨_, rfl⟩
  obtain ⟨x1, gx1⟩ : ∃ z, z = h0.size + 1 + 1 := ⟨_, rfl⟩
  obtain ⟨Ax0, Ex0⟩ := Hx2 0 x0 (by rw [gx0]; rfl)
  have Vx0 : Arv Z h2 x0 kx .int (1 : Int32) [(.int (0 : Int32))] (.int (0 : Int32)) := (Arv.new Ax0 (by decide)).pad (pad_rep [] (.int (0 : Int32)) 1)
  obtain ⟨Ax1, Ex1⟩ := Hx2 1 x1 (by rw [gx1]; rfl)
  have Vx1 : Arv Z h2 x1 kx .int (1 : Int32) [(.int (0 : Int32))] (.int (0 : Int32)) := (Arv.new Ax1 (by decide)).pad (pad_rep [] (.int (0 : Int32)) 1)
  have Vg : Arv Z h2 gA kA (.array .int) (2 : Int32) [(.ref x0), (.ref x1)] .null := by rw [gg, gx0, gx1]; exact Vg2
  rw [← gg] at st2
  have sz_gA : h0.size ≤ gA := by rw [gg]; omega
  have ne_a1_gA : a1 ≠ gA := Nat.ne_of_lt (Nat.lt_of_lt_of_le E_a1.lt sz_gA)
  have sz_x0 : h0.size ≤ x0 := by rw [gx0]; omega
  have ne_a1_x0 : a1 ≠ x0 := Nat.ne_of_lt (Nat.lt_of_lt_of_le E_a1.lt sz_x0)
  have sz_x1 : h0.size ≤ x1 := by rw [gx1]; omega
  have ne_a1_x1 : a1 ≠ x1 := Nat.ne_of_lt (Nat.lt_of_lt_of_le E_a1.lt sz_x1)
  have Zs2 : n0 ≤ h2.size := Nat.le_trans Z0 E2.1
  refine Goes.step ?_ st2
  show Goes p e below _ (sF T2 m 11 #[rv a1, iv (2 : Int32)] [(.ref gA), (.ref a1)])
  have F_a1_columns_4 := (F_columns.ext E2)
  have E_a1_5 := (E_a1.ext E2)
  obtain ⟨T3, h3, X3, e3, W3, st3⟩ := putF X2 hx hZ hown (host := "") (Or.inl (hw _ (List.mem_of_getElem? (i := 12) rfl))) Via.refl e2 F_a1_columns_4 E_a1_5 (Or.inr ⟨(hw _ (List.mem_of_getElem? (i := 13) rfl)), rfl, hnm⟩) (hw _ (List.mem_of_getElem? (i := 2) rfl)) (ty := (.array (.array .int))) (by decide) rfl rfl (g := (mkF m 11 #[rv a1, iv (2 : Int32)] [(.ref gA), (.ref a1)])) rfl rfl (hb hby d1_11)
  have Fw3 := F_a1_columns_4.same W3
  have Zs3 : n0 ≤ h3.size := Nat.le_trans Zs2 (Keep.of_wr W3).1
  have N3 := Fr.snoc X3 N0 g_a1
  refine Goes.step ?_ st3
  show Goes p e below _ (sF T3 m 14 #[rv a1, iv (2 : Int32)] [])
  refine own_outV X3 hx hlk hret (hb hby d1_14) ?_ (by decide) (by decide)
  show QNew2 Z a1 h0 n0 _ T3.heap _
  rw [e3]
  exact ⟨gA, x0, x1, kA, kx, rfl, N3, (((Keep.refl _ _).ext E2).wr W3 (Or.inl (List.mem_of_getElem? (i := 0) rfl))), Fw3, ((F_size.ext E2).other W3 (Or.inr (slot_ne (Or.inl (hw _ (List.mem_of_getElem? (i := 20) rfl))) (Or.inr (hw _ (List.mem_of_getElem? (i := 13) rfl))) (by decide) (t := .int) (t' := (.array (.array .int))) (by decide) (by decide)))), (Vg.other W3 (Ne.symm ne_a1_gA)), Og2, sz_gA, sz_x0, (Vx0.other W3 (Ne.symm ne_a1_x0)), (Ex0.wr W3), sz_x1, (Vx1.other W3 (Ne.symm ne_a1_x1)), (Ex1.wr W3), by rw [gg, gx0]; exact Nat.ne_of_lt (by omega), by rw [gg, gx1]; exact Nat.ne_of_lt (by omega), by rw [gx0, gx1]; exact Nat.ne_of_lt (by omega)⟩
theorem ef_new3 (m : MethodId) (x0 : Addr) (x1 : Int32) : entryFrame m #[(.ref x0), (.int x1)] 2 = mkF m 0 #[rv x0, iv x1] [] := by first | (simp [entryFrame, mkF, argsToLocals, Value.category]; done) | rfl
def QNew3 (Z : State) (a1 : Addr) (h0 : Heap) (n0 : Nat) (v : Option Value) (h : Heap) (L : List Loc) : Prop := ∃ (gA x0 x1 x2 : Addr) (kA kx : ClassId), v = none ∧ Fr n0 L ∧ Keep h0 h [a1] ∧ Fld Z h a1 "com/example/clio/clio/repository/Columns" "columns" "[[I" (.ref gA) ∧ Fld Z h a1 "com/example/clio/clio/repository/Columns" "size" "I" (.int (0 : Int32)) ∧ Arv Z h gA kA (.array .int) (3 : Int32) [(.ref x0), (.ref x1), (.ref x2)] .null ∧ OvrA Z kA .int "[I" ∧ h0.size ≤ gA ∧ h0.size ≤ x0 ∧ Arv Z h x0 kx .int (1 : Int32) [(.int (0 : Int32))] (.int (0 : Int32)) ∧ Exa Z h x0 "[I" ∧ h0.size ≤ x1 ∧ Arv Z h x1 kx .int (1 : Int32) [(.int (0 : Int32))] (.int (0 : Int32)) ∧ Exa Z h x1 "[I" ∧ h0.size ≤ x2 ∧ Arv Z h x2 kx .int (1 : Int32) [(.int (0 : Int32))] (.int (0 : Int32)) ∧ Exa Z h x2 "[I" ∧ gA ≠ x0 ∧ gA ≠ x1 ∧ gA ≠ x2 ∧ x0 ≠ x1 ∧ x0 ≠ x2 ∧ x1 ≠ x2
set_option maxRecDepth 65536 in
set_option maxHeartbeats 40000000 in
theorem rmNew3 (l : Launch) (Z : State) (a0 : Array Value) (hw : ∀ d ∈ tables_1, d.before a0 Z = true) (ws : List Jvm.Cond) (a1 : Addr) (h0 : Heap) (n0 : Nat) (Z0 : n0 ≤ h0.size) (F_columns : Fld Z h0 a1 "com/example/clio/clio/repository/Columns" "columns" "[[I" .null) (F_size : Fld Z h0 a1 "com/example/clio/clio/repository/Columns" "size" "I" (.int (0 : Int32))) (E_a1 : Exa Z h0 a1 "com/example/clio/clio/repository/Columns") (g_a1 : n0 ≤ a1) :
    MetFree l (⟨"com/example/clio/clio/repository/Columns", "<init>", "(I)V"⟩ : MethodName) (head1 (Jvm.Cond.code (⟨"com/example/clio/clio/repository/Columns", "<init>", "(I)V"⟩ : MethodName) prog_22_method_1_code 2 none :: ws) ({ frames := 1, cells := 4, slots := 6, locals := 12 } : Room)) (fun a U => a = #[(.ref a1), (.int (3 : Int32))] ∧ Z.Warmed39 U.vm ∧ U.heap = h0) (fun _ _ _ _ _ => True) (fun _ U o U' => ∃ v L, o = .returned v ∧ QNew3 Z a1 h0 n0 v U'.heap L ∧ FrameEnd U o U' L ({ frames := 1, cells := 4, slots := 6, locals := 12 } : Room).cells ({ frames := 1, cells := 4, slots := 6, locals := 12 } : Room).slots) := by
  refine MetFree.of_bodySF (plainFor_of_name pn_com_example_clio_clio_repository_Columns) hisR ?_
  intro p e s m args below meth c s₁ Bd hml0 hP hK
  obtain ⟨rfl, hZ, hh⟩ := hP
  have hx := Bd.exec
  have hby := Bd.bytes
  have hlk : meth.locks = false := BodyLoose.notSynchronized Bd
  have hml : c.maxLocals = 2 := hml0
  have hown : s.vm.findClass "com/example/clio/clio/repository/Columns" = some m.cls := findClass_of_methodNamed Bd.named
  have hnm := (name_of_methodNamed Bd.named Bd.method).1
  have X0 : Stand p l e ({ frames := 1, cells := 4, slots := 6, locals := 12 } : Room) s m #[(.ref a1), (.int (3 : Int32))] below meth c s₁ [] 0 0 := Stand.of_body Bd
  have e0 : s₁.heap = h0 := by rw [← hh, Bd.state]; rfl
  have N0 := Fr.nil n0
  have hret := Bd.returns
  show Goes p e below (fun o U' => ∃ v L, o = .returned v ∧ QNew3 Z a1 h0 n0 v U'.heap L ∧ FrameEnd s o U' L ({ frames := 1, cells := 4, slots := 6, locals := 12 } : Room).cells ({ frames := 1, cells := 4, slots := 6, locals := 12 } : Room).slots) (s₁.setTop (entryFrame m #[(.ref a1), (.int (3 : Int32))] 2))
  refine Goes.step ?_ (fun _ k => castTop (ef_new3 m a1 (3 : Int32)) k)
  show Goes p e below _ (sF s₁ m 0 #[rv a1, iv (3 : Int32)] [])
  refine Goes.step ?_ (fun _ k => XS.aloadN X0.here hx rfl (hb hby d1_0) rfl rfl k)
  show Goes p e below _ (sF s₁ m 1 #[rv a1, iv (3 : Int32)] [(.ref a1)])
  obtain ⟨T1, X1, e1, st1⟩ := initO X0 hx hZ hown (hw _ (List.mem_of_getElem? (i := 7) rfl)) (hw _ (List.mem_of_getElem? (i := 8) rfl)) (hw _ (List.mem_of_getElem? (i := 9) rfl)) e0 (g := (mkF m 1 #[rv a1, iv (3 : Int32)] [(.ref a1)])) rfl (by rw [hml]; rfl) rfl (hb hby d1_1) (by decide) (W := 0) (by show 2 * 0 + _ ≤ _; exact Nat.le_of_eq rfl) (by decide)
  refine Goes.step ?_ st1
  show Goes p e below _ (sF T1 m 4 #[rv a1, iv (3 : Int32)] [])
  refine Goes.step ?_ (fun _ k => XS.aloadN X1.here hx rfl (hb hby d1_4) rfl rfl k)
  show Goes p e below _ (sF T1 m 5 #[rv a1, iv (3 : Int32)] [(.ref a1)])
  refine Goes.step ?_ (fun _ k => XS.iloadN X1.here hx rfl (hb hby d1_5) rfl  k)
  show Goes p e below _ (sF T1 m 6 #[rv a1, iv (3 : Int32)] [(.int (3 : Int32)), (.ref a1)])
  refine Goes.step ?_ (fun _ k => XS.iconst X1.here hx rfl (hb hby d1_6) k)
  show Goes p e below _ (sF T1 m 7 #[rv a1, iv (3 : Int32)] [(.int (1 : Int32)), (.int (3 : Int32)), (.ref a1)])
  obtain ⟨T2, h2, kA, kx, X2, e2, E2, Vg2, Og2, -, Hx2, st2⟩ := gridM X1 hx hZ hown (C := "[I") (ad := "[[I") (ty := .int) (by decide) (by decide) (hw _ (List.mem_of_getElem? (i := 10) rfl)) (hw _ (List.mem_of_getElem? (i := 11) rfl)) (hw _ (List.mem_of_getElem? (i := 0) rfl)) e1 (g := (mkF m 7 #[rv a1, iv (3 : Int32)] [(.int (1 : Int32)), (.int (3 : Int32)), (.ref a1)])) rfl (hb hby d_multi) rfl (by decide) (by decide) (xs := [h0.size + 1 + 0, h0.size + 1 + 1, h0.size + 1 + 2]) (N := 3) (by decide) rfl (cap := 1) (by decide) (by decide) (by decide) rfl rfl (by decide) (by decide)
  obtain ⟨gA, gg⟩ : ∃ z, z = h0.size := ⟨_, rfl⟩
  obtain ⟨x0, gx0⟩ : ∃ z, z = h0.size + 1 + 0 := ⟨_, rfl⟩
  obtain ⟨x1, gx1⟩ : ∃ z, z = h0.size + 1 + 1 := ⟨_, rfl⟩
  obtain ⟨x2, gx2⟩ : ∃ z, z = h0.size + 1 + 2 := ⟨_, rfl⟩
  obtain ⟨Ax0, Ex0⟩ := Hx2 0 x0 (by rw [gx0]; rfl)
  have Vx0 : Arv Z h2 x0 kx .int (1 : Int32) [(.int (0 : Int32))] (.int (0 : Int32)) := (Arv.new Ax0 (by decide)).pad (pad_rep [] (.int (0 : Int32)) 1)
  obtain ⟨Ax1, Ex1⟩ := Hx2 1 x1 (by rw [gx1]; rfl)
  have Vx1 : Arv Z h2 x1 kx .int (1 : Int32) [(.int (0 : Int32))] (.int (0 : Int32)) := (Arv.new Ax1 (by decide)).pad (pad_rep [] (.int (0 : Int32)) 1)
  obtain ⟨Ax2, Ex2⟩ := Hx2 2 x2 (by rw [gx2]; rfl)
  have Vx2 : Arv Z h2 x2 kx .int (1 : Int32) [(.int (0 : Int32))] (.int (0 : Int32)) := (Arv.new Ax2 (by decide)).pad (pad_rep [] (.int (0 : Int32)) 1)
  have Vg : Arv Z h2 gA kA (.array .int) (3 : Int32) [(.ref x0), (.ref x1), (.ref x2)] .null := by rw [gg, gx0, gx1, gx2]; exact Vg2
  rw [← gg] at st2
  have sz_gA : h0.size ≤ gA := by rw [gg]; omega
  have ne_a1_gA : a1 ≠ gA := Nat.ne_of_lt (Nat.lt_of_lt_of_le E_a1.lt sz_gA)
  have sz_x0 : h0.size ≤ x0 := by rw [gx0]; omega
  have ne_a1_x0 : a1 ≠ x0 := Nat.ne_of_lt (Nat.lt_of_lt_of_le E_a1.lt sz_x0)
  have sz_x1 : h0.size ≤ x1 := by rw [gx1]; omega
  have ne_a1_x1 : a1 ≠ x1 := Nat.ne_of_lt (Nat.lt_of_lt_of_le E_a1.lt sz_x1)
  have sz_x2 : h0.size ≤ x2 := by rw [gx2]; omega
  have ne_a1_x2 : a1 ≠ x2 := Nat.ne_of_lt (Nat.lt_of_lt_of_le E_a1.lt sz_x2)
  have Zs2 : n0 ≤ h2.size := Nat.le_trans Z0 E2.1
  refine Goes.step ?_ st2
  show Goes p e below _ (sF T2 m 11 #[rv a1, iv (3 : Int32)] [(.ref gA), (.ref a1)])
  have F_a1_columns_4 := (F_columns.ext E2)
  have E_a1_5 := (E_a1.ext E2)
  obtain ⟨T3, h3, X3, e3, W3, st3⟩ := putF X2 hx hZ hown (host := "") (Or.inl (hw _ (List.mem_of_getElem? (i := 12) rfl))) Via.refl e2 F_a1_columns_4 E_a1_5 (Or.inr ⟨(hw _ (List.mem_of_getElem? (i := 13) rfl)), rfl, hnm⟩) (hw _ (List.mem_of_getElem? (i := 2) rfl)) (ty := (.array (.array .int))) (by decide) rfl rfl (g := (mkF m 11 #[rv a1, iv (3 : Int32)] [(.ref gA), (.ref a1)])) rfl rfl (hb hby d1_11)
  have Fw3 := F_a1_columns_4.same W3
  have Zs3 : n0 ≤ h3.size := Nat.le_trans Zs2 (Keep.of_wr W3).1
  have N3 := Fr.snoc X3 N0 g_a1
  refine Goes.step ?_ st3
  show Goes p e below _ (sF T3 m 14 #[rv a1, iv (3 : Int32)] [])
  refine own_outV X3 hx hlk hret (hb hby d1_14) ?_ (by decide) (by decide)
  show QNew3 Z a1 h0 n0 _ T3.heap _
  rw [e3]
  exact ⟨gA, x0, x1, x2, kA, kx, rfl, N3, (((Keep.refl _ _).ext E2).wr W3 (Or.inl (List.mem_of_getElem? (i := 0) rfl))), Fw3, ((F_size.ext E2).other W3 (Or.inr (slot_ne (Or.inl (hw _ (List.mem_of_getElem? (i := 20) rfl))) (Or.inr (hw _ (List.mem_of_getElem? (i := 13) rfl))) (by decide) (t := .int) (t' := (.array (.array .int))) (by decide) (by decide)))), (Vg.other W3 (Ne.symm ne_a1_gA)), Og2, sz_gA, sz_x0, (Vx0.other W3 (Ne.symm ne_a1_x0)), (Ex0.wr W3), sz_x1, (Vx1.other W3 (Ne.symm ne_a1_x1)), (Ex1.wr W3), sz_x2, (Vx2.other W3 (Ne.symm ne_a1_x2)), (Ex2.wr W3), by rw [gg, gx0]; exact Nat.ne_of_lt (by omega), by rw [gg, gx1]; exact Nat.ne_of_lt (by omega), by rw [gg, gx2]; exact Nat.ne_of_lt (by omega), by rw [gx0, gx1]; exact Nat.ne_of_lt (by omega), by rw [gx0, gx2]; exact Nat.ne_of_lt (by omega), by rw [gx1, gx2]; exact Nat.ne_of_lt (by omega)⟩
theorem ef_add (m : MethodId) (x0 : Addr) (x1 : Addr) : entryFrame m #[(.ref x0), (.ref x1)] 3 = mkF m 0 #[rv x0, rv x1, .unset] [] := by first | (simp [entryFrame, mkF, argsToLocals, Value.category]; done) | rfl
def QAdd1_0 (Z : State) (a1 gA : Addr) (kA : ClassId) (y0 y1 y2 : Int32) (x0 : Addr) (kx0 : ClassId) (d0_0 : Int32) (h0 : Heap) (n0 : Nat) (v : Option Value) (h : Heap) (L : List Loc) : Prop := v = none ∧ Fr n0 L ∧ Keep h0 h [a1, x0] ∧ Fld Z h a1 "com/example/clio/clio/repository/Columns" "columns" "[[I" (.ref gA) ∧ Fld Z h a1 "com/example/clio/clio/repository/Columns" "size" "I" (.int (1 : Int32)) ∧ Arv Z h gA kA (.array .int) (1 : Int32) [(.ref x0)] .null ∧ Arv Z h x0 kx0 .int (1 : Int32) [(.int y0)] (.int (0 : Int32)) ∧ Exa Z h x0 "[I"
theorem d7_0 : decode prog_22_method_2_code 0 = .ok (.aload_n 0, 1) := by decide +kernel
theorem d7_1 : decode prog_22_method_2_code 1 = .ok (.getfield 14, 3) := by decide +kernel
theorem d7_4 : decode prog_22_method_2_code 4 = .ok (.aload_n 0, 1) := by decide +kernel
theorem d7_5 : decode prog_22_method_2_code 5 = .ok (.getfield 9, 3) := by decide +kernel
theorem d7_8 : decode prog_22_method_2_code 8 = .ok (.iconst 0, 1) := by decide +kernel
theorem d7_9 : decode prog_22_method_2_code 9 = .ok (.aaload, 1) := by decide +kernel
theorem d7_10 : decode prog_22_method_2_code 10 = .ok (.arraylength, 1) := by decide +kernel
theorem d7_11 : decode prog_22_method_2_code 11 = .ok (.if_icmp .ne 41, 3) := by decide +kernel
theorem d7_52 : decode prog_22_method_2_code 52 = .ok (.iconst 0, 1) := by decide +kernel
theorem d7_53 : decode prog_22_method_2_code 53 = .ok (.istore_n 2, 1) := by decide +kernel
theorem d7_54 : decode prog_22_method_2_code 54 = .ok (.iload_n 2, 1) := by decide +kernel
theorem d7_55 : decode prog_22_method_2_code 55 = .ok (.aload_n 0, 1) := by decide +kernel
theorem d7_56 : decode prog_22_method_2_code 56 = .ok (.getfield 9, 3) := by decide +kernel
theorem d7_59 : decode prog_22_method_2_code 59 = .ok (.arraylength, 1) := by decide +kernel
theorem d7_60 : decode prog_22_method_2_code 60 = .ok (.if_icmp .ge 23, 3) := by decide +kernel
theorem d7_63 : decode prog_22_method_2_code 63 = .ok (.aload_n 0, 1) := by decide +kernel
theorem d7_64 : decode prog_22_method_2_code 64 = .ok (.getfield 9, 3) := by decide +kernel
theorem d7_67 : decode prog_22_method_2_code 67 = .ok (.iload_n 2, 1) := by decide +kernel
theorem d7_68 : decode prog_22_method_2_code 68 = .ok (.aaload, 1) := by decide +kernel
theorem d7_69 : decode prog_22_method_2_code 69 = .ok (.aload_n 0, 1) := by decide +kernel
theorem d7_70 : decode prog_22_method_2_code 70 = .ok (.getfield 14, 3) := by decide +kernel
theorem d7_73 : decode prog_22_method_2_code 73 = .ok (.aload_n 1, 1) := by decide +kernel
theorem d7_74 : decode prog_22_method_2_code 74 = .ok (.iload_n 2, 1) := by decide +kernel
theorem d7_75 : decode prog_22_method_2_code 75 = .ok (.iaload, 1) := by decide +kernel
theorem d7_76 : decode prog_22_method_2_code 76 = .ok (.iastore, 1) := by decide +kernel
theorem d7_77 : decode prog_22_method_2_code 77 = .ok (.iinc 2 1, 3) := by decide +kernel
theorem d7_80 : decode prog_22_method_2_code 80 = .ok (.goto (-26), 3) := by decide +kernel
theorem d7_83 : decode prog_22_method_2_code 83 = .ok (.aload_n 0, 1) := by decide +kernel
theorem d7_84 : decode prog_22_method_2_code 84 = .ok (.dup, 1) := by decide +kernel
theorem d7_85 : decode prog_22_method_2_code 85 = .ok (.getfield 14, 3) := by decide +kernel
theorem d7_88 : decode prog_22_method_2_code 88 = .ok (.iconst 1, 1) := by decide +kernel
theorem d7_89 : decode prog_22_method_2_code 89 = .ok (.iadd, 1) := by decide +kernel
theorem d7_90 : decode prog_22_method_2_code 90 = .ok (.putfield 14, 3) := by decide +kernel
theorem d7_93 : decode prog_22_method_2_code 93 = .ok (.return_, 1) := by decide +kernel
set_option maxRecDepth 65536 in
set_option maxHeartbeats 40000000 in
theorem rmAdd1_0 (l : Launch) (Z : State) (a0 : Array Value) (hw : ∀ d ∈ tables_1, d.before a0 Z = true) (ws : List Jvm.Cond) (a1 : Addr) (r : Addr) (gA : Addr) (kA : ClassId) (kr : ClassId) (y0 : Int32) (y1 : Int32) (y2 : Int32) (x0 : Addr) (kx0 : ClassId) (d0_0 : Int32) (h0 : Heap) (n0 : Nat) (Z0 : n0 ≤ h0.size) (F_columns : Fld Z h0 a1 "com/example/clio/clio/repository/Columns" "columns" "[[I" (.ref gA)) (F_size : Fld Z h0 a1 "com/example/clio/clio/repository/Columns" "size" "I" (.int (0 : Int32))) (E_a1 : Exa Z h0 a1 "com/example/clio/clio/repository/Columns") (V_gA : Arv Z h0 gA kA (.array .int) (1 : Int32) [(.ref x0)] .null) (Ov : OvrA Z kA .int "[I") (V_r : Arv Z h0 r kr .int (3 : Int32) [(.int y0), (.int y1), (.int y2)] (.int (0 : Int32))) (V_x0 : Arv Z h0 x0 kx0 .int (1 : Int32) [(.int d0_0)] (.int (0 : Int32))) (E_x0 : Exa Z h0 x0 "[I") (ne_a1_r : a1 ≠ r) (ne_a1_gA : a1 ≠ gA) (ne_a1_x0 : a1 ≠ x0) (ne_r_gA : r ≠ gA) (ne_r_x0 : r ≠ x0) (ne_gA_x0 : gA ≠ x0) (g_a1 : n0 ≤ a1) (g_gA : n0 ≤ gA) (g_x0 : n0 ≤ x0) :
    MetFree l (⟨"com/example/clio/clio/repository/Columns", "add", "([I)V"⟩ : MethodName) (head1 (Jvm.Cond.code (⟨"com/example/clio/clio/repository/Columns", "add", "([I)V"⟩ : MethodName) prog_22_method_2_code 3 none :: ws) ({ frames := 2, cells := 0, slots := 0, locals := 34 } : Room)) (fun a U => a = #[(.ref a1), (.ref r)] ∧ Z.Warmed39 U.vm ∧ U.heap = h0) (fun _ _ _ _ _ => True) (fun _ U o U' => ∃ v L, o = .returned v ∧ QAdd1_0 Z a1 gA kA y0 y1 y2 x0 kx0 d0_0 h0 n0 v U'.heap L ∧ FrameEnd U o U' L ({ frames := 2, cells := 0, slots := 0, locals := 34 } : Room).cells ({ frames := 2, cells := 0, slots := 0, locals := 34 } : Room).slots) := by
  refine MetFree.of_bodySF (plainFor_of_name pn_com_example_clio_clio_repository_Columns) hisR ?_
  intro p e s m args below meth c s₁ Bd hml0 hP hK
  obtain ⟨rfl, hZ, hh⟩ := hP
  have hx := Bd.exec
  have hby := Bd.bytes
  have hlk : meth.locks = false := BodyLoose.notSynchronized Bd
  have hml : c.maxLocals = 3 := hml0
  have hown : s.vm.findClass "com/example/clio/clio/repository/Columns" = some m.cls := findClass_of_methodNamed Bd.named
  have hnm := (name_of_methodNamed Bd.named Bd.method).1
  have X0 : Stand p l e ({ frames := 2, cells := 0, slots := 0, locals := 34 } : Room) s m #[(.ref a1), (.ref r)] below meth c s₁ [] 0 0 := Stand.of_body Bd
  have e0 : s₁.heap = h0 := by rw [← hh, Bd.state]; rfl
  have N0 := Fr.nil n0
  have hret := Bd.returns
  show Goes p e below (fun o U' => ∃ v L, o = .returned v ∧ QAdd1_0 Z a1 gA kA y0 y1 y2 x0 kx0 d0_0 h0 n0 v U'.heap L ∧ FrameEnd s o U' L ({ frames := 2, cells := 0, slots := 0, locals := 34 } : Room).cells ({ frames := 2, cells := 0, slots := 0, locals := 34 } : Room).slots) (s₁.setTop (entryFrame m #[(.ref a1), (.ref r)] 3))
  refine Goes.step ?_ (fun _ k => castTop (ef_add m a1 r) k)
  show Goes p e below _ (sF s₁ m 0 #[rv a1, rv r, .unset] [])
  refine Goes.step ?_ (fun _ k => XS.aloadN X0.here hx rfl (hb hby d7_0) rfl rfl k)
  show Goes p e below _ (sF s₁ m 1 #[rv a1, rv r, .unset] [(.ref a1)])
  obtain ⟨T1, X1, e1, st1⟩ := getF X0 hx hZ hown (host := "") (Or.inl (hw _ (List.mem_of_getElem? (i := 19) rfl))) Via.refl e0 F_size (g := (mkF m 1 #[rv a1, rv r, .unset] [(.ref a1)])) rfl rfl (hb hby d7_1)
  refine Goes.step ?_ st1
  show Goes p e below _ (sF T1 m 4 #[rv a1, rv r, .unset] [(.int (0 : Int32))])
  refine Goes.step ?_ (fun _ k => XS.aloadN X1.here hx rfl (hb hby d7_4) rfl rfl k)
  show Goes p e below _ (sF T1 m 5 #[rv a1, rv r, .unset] [(.ref a1), (.int (0 : Int32))])
  obtain ⟨T2, X2, e2, st2⟩ := getF X1 hx hZ hown (host := "") (Or.inl (hw _ (List.mem_of_getElem? (i := 12) rfl))) Via.refl e1 F_columns (g := (mkF m 5 #[rv a1, rv r, .unset] [(.ref a1), (.int (0 : Int32))])) rfl rfl (hb hby d7_5)
  refine Goes.step ?_ st2
  show Goes p e below _ (sF T2 m 8 #[rv a1, rv r, .unset] [(.ref gA), (.int (0 : Int32))])
  refine Goes.step ?_ (fun _ k => XS.iconst X2.here hx rfl (hb hby d7_8) k)
  show Goes p e below _ (sF T2 m 9 #[rv a1, rv r, .unset] [(.int (0 : Int32)), (.ref gA), (.int (0 : Int32))])
  obtain ⟨cl3, Ar3, q3, S3, N_3, H3, G3⟩ := id V_gA
  have hin4 : ¬ ((0 : Int32) < 0 ∨ cl3.slots.size ≤ ((0 : Int32)).toNatClampNeg) := inb_of S3 ⟨by decide, by decide⟩
  have hat4 : cl3.slots[((0 : Int32)).toNatClampNeg]? = some (.ref x0) := H3.at hin4 rfl
  refine Goes.step ?_ (fun _ k => X2.aaload hx (j := (0 : Int32)) (v := (.ref x0)) (by rw [e2]; exact Ar3.1) (State.isArrayOf_alike hZ.alike Ar3.2.1) rfl Ar3.2.2 hin4 hat4 (g := (mkF m 9 #[rv a1, rv r, .unset] [(.int (0 : Int32)), (.ref gA), (.int (0 : Int32))])) rfl rfl (hb hby d7_9) _ k)
  show Goes p e below _ (sF T2 m 10 #[rv a1, rv r, .unset] [(.ref x0), (.int (0 : Int32))])
  obtain ⟨cl5, Ar5, q5, S5, N_5, H5, G5⟩ := id V_x0
  refine Goes.step ?_ (fun _ k => X2.arraylength hx (by rw [e2]; exact Ar5.1) (State.isArrayOf_alike hZ.alike Ar5.2.1) (g := (mkF m 10 #[rv a1, rv r, .unset] [(.ref x0), (.int (0 : Int32))])) rfl rfl (hb hby d7_10) _ k)
  rw [len_of S5 N_5]
  show Goes p e below _ (sF T2 m 11 #[rv a1, rv r, .unset] [(.int (1 : Int32)), (.int (0 : Int32))])
  refine Goes.step ?_ (fun _ k => XS.icmpYes X2.here hx rfl (pc0 := 11) (pc' := 52) rfl (hb hby d7_11) rfl (feq (by decide : ¬ ((0 : Int32) = (1 : Int32)))).2 (by decide) (by decide) k)
  show Goes p e below _ (sF T2 m 52 #[rv a1, rv r, .unset] [])
  refine Goes.step ?_ (fun _ k => XS.iconst X2.here hx rfl (hb hby d7_52) k)
  show Goes p e below _ (sF T2 m 53 #[rv a1, rv r, .unset] [(.int (0 : Int32))])
  refine Goes.step ?_ (fun _ k => XS.istoreN X2.here hx rfl (hb hby d7_53) rfl (l' := #[rv a1, rv r, iv (0 : Int32)]) rfl k)
  show Goes p e below _ (sF T2 m 54 #[rv a1, rv r, iv (0 : Int32)] [])
  refine Goes.step ?_ (fun _ k => XS.iloadN X2.here hx rfl (hb hby d7_54) rfl  k)
  show Goes p e below _ (sF T2 m 55 #[rv a1, rv r, iv (0 : Int32)] [(.int (0 : Int32))])
  refine Goes.step ?_ (fun _ k => XS.aloadN X2.here hx rfl (hb hby d7_55) rfl rfl k)
  show Goes p e below _ (sF T2 m 56 #[rv a1, rv r, iv (0 : Int32)] [(.ref a1), (.int (0 : Int32))])
  obtain ⟨T6, X6, e6, st6⟩ := getF X2 hx hZ hown (host := "") (Or.inl (hw _ (List.mem_of_getElem? (i := 12) rfl))) Via.refl e2 F_columns (g := (mkF m 56 #[rv a1, rv r, iv (0 : Int32)] [(.ref a1), (.int (0 : Int32))])) rfl rfl (hb hby d7_56)
  refine Goes.step ?_ st6
  show Goes p e below _ (sF T6 m 59 #[rv a1, rv r, iv (0 : Int32)] [(.ref gA), (.int (0 : Int32))])
  obtain ⟨cl7, Ar7, q7, S7, N_7, H7, G7⟩ := id V_gA
  refine Goes.step ?_ (fun _ k => X6.arraylength hx (by rw [e6]; exact Ar7.1) (State.isArrayOf_alike hZ.alike Ar7.2.1) (g := (mkF m 59 #[rv a1, rv r, iv (0 : Int32)] [(.ref gA), (.int (0 : Int32))])) rfl rfl (hb hby d7_59) _ k)
  rw [len_of S7 N_7]
  show Goes p e below _ (sF T6 m 60 #[rv a1, rv r, iv (0 : Int32)] [(.int (1 : Int32)), (.int (0 : Int32))])
  refine Goes.step ?_ (fun _ k => XS.icmpNo X6.here hx rfl (hb hby d7_60) rfl (tlt (by decide : (0 : Int32) < (1 : Int32))).2.1 k)
  show Goes p e below _ (sF T6 m 63 #[rv a1, rv r, iv (0 : Int32)] [])
  refine Goes.step ?_ (fun _ k => XS.aloadN X6.here hx rfl (hb hby d7_63) rfl rfl k)
  show Goes p e below _ (sF T6 m 64 #[rv a1, rv r, iv (0 : Int32)] [(.ref a1)])
  obtain ⟨T8, X8, e8, st8⟩ := getF X6 hx hZ hown (host := "") (Or.inl (hw _ (List.mem_of_getElem? (i := 12) rfl))) Via.refl e6 F_columns (g := (mkF m 64 #[rv a1, rv r, iv (0 : Int32)] [(.ref a1)])) rfl rfl (hb hby d7_64)
  refine Goes.step ?_ st8
  show Goes p e below _ (sF T8 m 67 #[rv a1, rv r, iv (0 : Int32)] [(.ref gA)])
  refine Goes.step ?_ (fun _ k => XS.iloadN X8.here hx rfl (hb hby d7_67) rfl  k)
  show Goes p e below _ (sF T8 m 68 #[rv a1, rv r, iv (0 : Int32)] [(.int (0 : Int32)), (.ref gA)])
  obtain ⟨cl9, Ar9, q9, S9, N_9, H9, G9⟩ := id V_gA
  have hin10 : ¬ ((0 : Int32) < 0 ∨ cl9.slots.size ≤ ((0 : Int32)).toNatClampNeg) := inb_of S9 ⟨by decide, by decide⟩
  have hat10 : cl9.slots[((0 : Int32)).toNatClampNeg]? = some (.ref x0) := H9.at hin10 rfl
  refine Goes.step ?_ (fun _ k => X8.aaload hx (j := (0 : Int32)) (v := (.ref x0)) (by rw [e8]; exact Ar9.1) (State.isArrayOf_alike hZ.alike Ar9.2.1) rfl Ar9.2.2 hin10 hat10 (g := (mkF m 68 #[rv a1, rv r, iv (0 : Int32)] [(.int (0 : Int32)), (.ref gA)])) rfl rfl (hb hby d7_68) _ k)
  show Goes p e below _ (sF T8 m 69 #[rv a1, rv r, iv (0 : Int32)] [(.ref x0)])
  refine Goes.step ?_ (fun _ k => XS.aloadN X8.here hx rfl (hb hby d7_69) rfl rfl k)
  show Goes p e below _ (sF T8 m 70 #[rv a1, rv r, iv (0 : Int32)] [(.ref a1), (.ref x0)])
  obtain ⟨T11, X11, e11, st11⟩ := getF X8 hx hZ hown (host := "") (Or.inl (hw _ (List.mem_of_getElem? (i := 19) rfl))) Via.refl e8 F_size (g := (mkF m 70 #[rv a1, rv r, iv (0 : Int32)] [(.ref a1), (.ref x0)])) rfl rfl (hb hby d7_70)
  refine Goes.step ?_ st11
  show Goes p e below _ (sF T11 m 73 #[rv a1, rv r, iv (0 : Int32)] [(.int (0 : Int32)), (.ref x0)])
  refine Goes.step ?_ (fun _ k => XS.aloadN X11.here hx rfl (hb hby d7_73) rfl rfl k)
  show Goes p e below _ (sF T11 m 74 #[rv a1, rv r, iv (0 : Int32)] [(.ref r), (.int (0 : Int32)), (.ref x0)])
  refine Goes.step ?_ (fun _ k => XS.iloadN X11.here hx rfl (hb hby d7_74) rfl  k)
  show Goes p e below _ (sF T11 m 75 #[rv a1, rv r, iv (0 : Int32)] [(.int (0 : Int32)), (.ref r), (.int (0 : Int32)), (.ref x0)])
  obtain ⟨cl12, Ar12, q12, S12, N_12, H12, G12⟩ := id V_r
  have hin13 : ¬ ((0 : Int32) < 0 ∨ cl12.slots.size ≤ ((0 : Int32)).toNatClampNeg) := inb_of S12 ⟨by decide, by decide⟩
  have hat13 : cl12.slots[((0 : Int32)).toNatClampNeg]? = some (.int y0) := H12.at hin13 rfl
  refine Goes.step ?_ (fun _ k => X11.iaload hx (j := (0 : Int32)) (v := (.int y0)) (by rw [e11]; exact Ar12.1) (State.isArrayOf_alike hZ.alike Ar12.2.1) Ar12.2.2 hin13 hat13 (g := (mkF m 75 #[rv a1, rv r, iv (0 : Int32)] [(.int (0 : Int32)), (.ref r), (.int (0 : Int32)), (.ref x0)])) rfl rfl (hb hby d7_75) _ k)
  show Goes p e below _ (sF T11 m 76 #[rv a1, rv r, iv (0 : Int32)] [(.int y0), (.int (0 : Int32)), (.ref x0)])
  obtain ⟨cl14, Ar14, q14, S14, N_14, H14, G14⟩ := id V_x0
  have hin15 : ¬ ((0 : Int32) < 0 ∨ cl14.slots.size ≤ ((0 : Int32)).toNatClampNeg) := inb_of S14 ⟨by decide, by decide⟩
  obtain ⟨T15, h15, X15, e15, W15, st15⟩ := stI X11 hx hZ e11 Ar14 (j := (0 : Int32)) hin15 (g := (mkF m 76 #[rv a1, rv r, iv (0 : Int32)] [(.int y0), (.int (0 : Int32)), (.ref x0)])) rfl rfl (hb hby d7_76)
  have V_15 : Arv Z h15 x0 kx0 .int (1 : Int32) [(.int y0)] (.int (0 : Int32)) := Arv.set Ar14 q14 S14 N_14 H14 G14 rfl W15 0 rfl (Nat.le_of_ble_eq_true rfl)
  have Zs15 : n0 ≤ h15.size := Nat.le_trans Z0 (Keep.of_wr W15).1
  have N15 := Fr.snoc X15 N0 g_x0
  refine Goes.step ?_ st15
  show Goes p e below _ (sF T15 m 77 #[rv a1, rv r, iv (0 : Int32)] [])
  refine Goes.step ?_ (fun _ k => XS.iinc X15.here hx rfl (hb hby d7_77) rfl (l' := #[rv a1, rv r, iv ((0 : Int32) + (1 : Int32))]) rfl k)
  show Goes p e below _ (sF T15 m 80 #[rv a1, rv r, iv ((0 : Int32) + (1 : Int32))] [])
  rw [show ((0 : Int32) + (1 : Int32)) = (1 : Int32) from by decide]
  show Goes p e below _ (sF T15 m 80 #[rv a1, rv r, iv (1 : Int32)] [])
  refine Goes.step ?_ (fun _ k => XS.goto X15.here hx rfl (pc0 := 80) (pc' := 54) rfl (hb hby d7_80) (by decide) (by decide) k)
  show Goes p e below _ (sF T15 m 54 #[rv a1, rv r, iv (1 : Int32)] [])
  refine Goes.step ?_ (fun _ k => XS.iloadN X15.here hx rfl (hb hby d7_54) rfl  k)
  show Goes p e below _ (sF T15 m 55 #[rv a1, rv r, iv (1 : Int32)] [(.int (1 : Int32))])
  refine Goes.step ?_ (fun _ k => XS.aloadN X15.here hx rfl (hb hby d7_55) rfl rfl k)
  show Goes p e below _ (sF T15 m 56 #[rv a1, rv r, iv (1 : Int32)] [(.ref a1), (.int (1 : Int32))])
  have F_a1_columns_16 := (F_columns.other W15 (Or.inl ne_a1_x0))
  obtain ⟨T17, X17, e17, st17⟩ := getF X15 hx hZ hown (host := "") (Or.inl (hw _ (List.mem_of_getElem? (i := 12) rfl))) Via.refl e15 F_a1_columns_16 (g := (mkF m 56 #[rv a1, rv r, iv (1 : Int32)] [(.ref a1), (.int (1 : Int32))])) rfl rfl (hb hby d7_56)
  refine Goes.step ?_ st17
  show Goes p e below _ (sF T17 m 59 #[rv a1, rv r, iv (1 : Int32)] [(.ref gA), (.int (1 : Int32))])
  have V_gA_18 := (V_gA.other W15 ne_gA_x0)
  obtain ⟨cl19, Ar19, q19, S19, N_19, H19, G19⟩ := id V_gA_18
  refine Goes.step ?_ (fun _ k => X17.arraylength hx (by rw [e17]; exact Ar19.1) (State.isArrayOf_alike hZ.alike Ar19.2.1) (g := (mkF m 59 #[rv a1, rv r, iv (1 : Int32)] [(.ref gA), (.int (1 : Int32))])) rfl rfl (hb hby d7_59) _ k)
  rw [len_of S19 N_19]
  show Goes p e below _ (sF T17 m 60 #[rv a1, rv r, iv (1 : Int32)] [(.int (1 : Int32)), (.int (1 : Int32))])
  refine Goes.step ?_ (fun _ k => XS.icmpYes X17.here hx rfl (pc0 := 60) (pc' := 83) rfl (hb hby d7_60) rfl (flt (by decide : ¬ ((1 : Int32) < (1 : Int32)))).2.1 (by decide) (by decide) k)
  show Goes p e below _ (sF T17 m 83 #[rv a1, rv r, iv (1 : Int32)] [])
  refine Goes.step ?_ (fun _ k => XS.aloadN X17.here hx rfl (hb hby d7_83) rfl rfl k)
  show Goes p e below _ (sF T17 m 84 #[rv a1, rv r, iv (1 : Int32)] [(.ref a1)])
  refine Goes.step ?_ (fun _ k => XS.dup X17.here hx rfl (hb hby d7_84) rfl rfl k)
  show Goes p e below _ (sF T17 m 85 #[rv a1, rv r, iv (1 : Int32)] [(.ref a1), (.ref a1)])
  have F_a1_size_20 := (F_size.other W15 (Or.inl ne_a1_x0))
  obtain ⟨T21, X21, e21, st21⟩ := getF X17 hx hZ hown (host := "") (Or.inl (hw _ (List.mem_of_getElem? (i := 19) rfl))) Via.refl e17 F_a1_size_20 (g := (mkF m 85 #[rv a1, rv r, iv (1 : Int32)] [(.ref a1), (.ref a1)])) rfl rfl (hb hby d7_85)
  refine Goes.step ?_ st21
  show Goes p e below _ (sF T21 m 88 #[rv a1, rv r, iv (1 : Int32)] [(.int (0 : Int32)), (.ref a1)])
  refine Goes.step ?_ (fun _ k => XS.iconst X21.here hx rfl (hb hby d7_88) k)
  show Goes p e below _ (sF T21 m 89 #[rv a1, rv r, iv (1 : Int32)] [(.int (1 : Int32)), (.int (0 : Int32)), (.ref a1)])
  refine Goes.step ?_ (fun _ k => XS.iadd X21.here hx rfl (hb hby d7_89) rfl k)
  show Goes p e below _ (sF T21 m 90 #[rv a1, rv r, iv (1 : Int32)] [(.int ((0 : Int32) + (1 : Int32))), (.ref a1)])
  rw [show ((0 : Int32) + (1 : Int32)) = (1 : Int32) from by decide]
  show Goes p e below _ (sF T21 m 90 #[rv a1, rv r, iv (1 : Int32)] [(.int (1 : Int32)), (.ref a1)])
  have E_a1_23 := (E_a1.wr W15)
  obtain ⟨T22, h22, X22, e22, W22, st22⟩ := putF X21 hx hZ hown (host := "") (Or.inl (hw _ (List.mem_of_getElem? (i := 19) rfl))) Via.refl e21 F_a1_size_20 E_a1_23 (Or.inl (hw _ (List.mem_of_getElem? (i := 20) rfl))) (hw _ (List.mem_of_getElem? (i := 2) rfl)) (ty := .int) (by decide) rfl rfl (g := (mkF m 90 #[rv a1, rv r, iv (1 : Int32)] [(.int (1 : Int32)), (.ref a1)])) rfl rfl (hb hby d7_90)
  have Fw22 := F_a1_size_20.same W22
  have Zs22 : n0 ≤ h22.size := Nat.le_trans Zs15 (Keep.of_wr W22).1
  have N22 := Fr.snoc X22 N15 g_a1
  refine Goes.step ?_ st22
  show Goes p e below _ (sF T22 m 93 #[rv a1, rv r, iv (1 : Int32)] [])
  refine own_outV X22 hx hlk hret (hb hby d7_93) ?_ (by decide) (by decide)
  show QAdd1_0 Z a1 gA kA y0 y1 y2 x0 kx0 d0_0 h0 n0 _ T22.heap _
  rw [e22]
  exact ⟨rfl, N22, (((Keep.refl h0 [a1, x0]).wr W15 (Or.inl (List.mem_of_getElem? (i := 1) rfl))).wr W22 (Or.inl (List.mem_of_getElem? (i := 0) rfl))), (F_a1_columns_16.other W22 (Or.inr (slot_ne (Or.inr (hw _ (List.mem_of_getElem? (i := 13) rfl))) (Or.inl (hw _ (List.mem_of_getElem? (i := 20) rfl))) (by decide) (t := (.array (.array .int))) (t' := .int) (by decide) (by decide)))), Fw22, (V_gA_18.other W22 (Ne.symm ne_a1_gA)), (V_15.other W22 (Ne.symm ne_a1_x0)), ((E_x0.wr W15).wr W22)⟩
def QAdd1_1 (Z : State) (a1 gA : Addr) (kA : ClassId) (y0 y1 y2 : Int32) (d0_0 : Int32) (h0 : Heap) (n0 : Nat) (v : Option Value) (h : Heap) (L : List Loc) : Prop := ∃ (z0 : Addr) (kz0 : ClassId), v = none ∧ Fr n0 L ∧ Keep h0 h [a1, gA] ∧ Fld Z h a1 "com/example/clio/clio/repository/Columns" "columns" "[[I" (.ref gA) ∧ Fld Z h a1 "com/example/clio/clio/repository/Columns" "size" "I" (.int (2 : Int32)) ∧ Arv Z h gA kA (.array .int) (1 : Int32) [(.ref z0)] .null ∧ Arv Z h z0 kz0 .int (2 : Int32) [(.int d0_0), (.int y0)] (.int (0 : Int32)) ∧ Exa Z h z0 "[I" ∧ h0.size ≤ z0
theorem d7_14 : decode prog_22_method_2_code 14 = .ok (.iconst 0, 1) := by decide +kernel
theorem d7_15 : decode prog_22_method_2_code 15 = .ok (.istore_n 2, 1) := by decide +kernel
theorem d7_16 : decode prog_22_method_2_code 16 = .ok (.iload_n 2, 1) := by decide +kernel
theorem d7_17 : decode prog_22_method_2_code 17 = .ok (.aload_n 0, 1) := by decide +kernel
theorem d7_18 : decode prog_22_method_2_code 18 = .ok (.getfield 9, 3) := by decide +kernel
theorem d7_21 : decode prog_22_method_2_code 21 = .ok (.arraylength, 1) := by decide +kernel
theorem d7_22 : decode prog_22_method_2_code 22 = .ok (.if_icmp .ge 30, 3) := by decide +kernel
theorem d7_25 : decode prog_22_method_2_code 25 = .ok (.aload_n 0, 1) := by decide +kernel
theorem d7_26 : decode prog_22_method_2_code 26 = .ok (.getfield 9, 3) := by decide +kernel
theorem d7_29 : decode prog_22_method_2_code 29 = .ok (.iload_n 2, 1) := by decide +kernel
theorem d7_30 : decode prog_22_method_2_code 30 = .ok (.aload_n 0, 1) := by decide +kernel
theorem d7_31 : decode prog_22_method_2_code 31 = .ok (.getfield 9, 3) := by decide +kernel
theorem d7_34 : decode prog_22_method_2_code 34 = .ok (.iload_n 2, 1) := by decide +kernel
theorem d7_35 : decode prog_22_method_2_code 35 = .ok (.aaload, 1) := by decide +kernel
theorem d7_36 : decode prog_22_method_2_code 36 = .ok (.aload_n 0, 1) := by decide +kernel
theorem d7_37 : decode prog_22_method_2_code 37 = .ok (.getfield 14, 3) := by decide +kernel
theorem d7_40 : decode prog_22_method_2_code 40 = .ok (.iconst 2, 1) := by decide +kernel
theorem d7_41 : decode prog_22_method_2_code 41 = .ok (.imul, 1) := by decide +kernel
theorem d7_42 : decode prog_22_method_2_code 42 = .ok (.invokestatic 18, 3) := by decide +kernel
theorem d7_45 : decode prog_22_method_2_code 45 = .ok (.aastore, 1) := by decide +kernel
theorem d7_46 : decode prog_22_method_2_code 46 = .ok (.iinc 2 1, 3) := by decide +kernel
theorem d7_49 : decode prog_22_method_2_code 49 = .ok (.goto (-33), 3) := by decide +kernel
set_option maxRecDepth 65536 in
set_option maxHeartbeats 40000000 in
theorem rmAdd1_1 (l : Launch) (Z : State) (a0 : Array Value) (hw : ∀ d ∈ tables_1, d.before a0 Z = true) (ws : List Jvm.Cond) (a1 : Addr) (r : Addr) (gA : Addr) (kA : ClassId) (kr : ClassId) (y0 : Int32) (y1 : Int32) (y2 : Int32) (x0 : Addr) (kx0 : ClassId) (d0_0 : Int32) (h0 : Heap) (n0 : Nat) (Z0 : n0 ≤ h0.size) (F_columns : Fld Z h0 a1 "com/example/clio/clio/repository/Columns" "columns" "[[I" (.ref gA)) (F_size : Fld Z h0 a1 "com/example/clio/clio/repository/Columns" "size" "I" (.int (1 : Int32))) (E_a1 : Exa Z h0 a1 "com/example/clio/clio/repository/Columns") (V_gA : Arv Z h0 gA kA (.array .int) (1 : Int32) [(.ref x0)] .null) (Ov : OvrA Z kA .int "[I") (V_r : Arv Z h0 r kr .int (3 : Int32) [(.int y0), (.int y1), (.int y2)] (.int (0 : Int32))) (V_x0 : Arv Z h0 x0 kx0 .int (1 : Int32) [(.int d0_0)] (.int (0 : Int32))) (E_x0 : Exa Z h0 x0 "[I") (ne_a1_r : a1 ≠ r) (ne_a1_gA : a1 ≠ gA) (ne_a1_x0 : a1 ≠ x0) (ne_r_gA : r ≠ gA) (ne_r_x0 : r ≠ x0) (ne_gA_x0 : gA ≠ x0) (g_a1 : n0 ≤ a1) (g_gA : n0 ≤ gA) (g_x0 : n0 ≤ x0) :
    MetFree l (⟨"com/example/clio/clio/repository/Columns", "add", "([I)V"⟩ : MethodName) (head1 (Jvm.Cond.code (⟨"com/example/clio/clio/repository/Columns", "add", "([I)V"⟩ : MethodName) prog_22_method_2_code 3 none :: ws) ({ frames := 2, cells := 1, slots := 4, locals := 34 } : Room)) (fun a U => a = #[(.ref a1), (.ref r)] ∧ Z.Warmed39 U.vm ∧ U.heap = h0) (fun _ _ _ _ _ => True) (fun _ U o U' => ∃ v L, o = .returned v ∧ QAdd1_1 Z a1 gA kA y0 y1 y2 d0_0 h0 n0 v U'.heap L ∧ FrameEnd U o U' L ({ frames := 2, cells := 1, slots := 4, locals := 34 } : Room).cells ({ frames := 2, cells := 1, slots := 4, locals := 34 } : Room).slots) := by
  refine MetFree.of_bodySF (plainFor_of_name pn_com_example_clio_clio_repository_Columns) hisR ?_
  intro p e s m args below meth c s₁ Bd hml0 hP hK
  obtain ⟨rfl, hZ, hh⟩ := hP
  have hx := Bd.exec
  have hby := Bd.bytes
  have hlk : meth.locks = false := BodyLoose.notSynchronized Bd
  have hml : c.maxLocals = 3 := hml0
  have hown : s.vm.findClass "com/example/clio/clio/repository/Columns" = some m.cls := findClass_of_methodNamed Bd.named
  have hnm := (name_of_methodNamed Bd.named Bd.method).1
  have X0 : Stand p l e ({ frames := 2, cells := 1, slots := 4, locals := 34 } : Room) s m #[(.ref a1), (.ref r)] below meth c s₁ [] 0 0 := Stand.of_body Bd
  have e0 : s₁.heap = h0 := by rw [← hh, Bd.state]; rfl
  have N0 := Fr.nil n0
  have hret := Bd.returns
  show Goes p e below (fun o U' => ∃ v L, o = .returned v ∧ QAdd1_1 Z a1 gA kA y0 y1 y2 d0_0 h0 n0 v U'.heap L ∧ FrameEnd s o U' L ({ frames := 2, cells := 1, slots := 4, locals := 34 } : Room).cells ({ frames := 2, cells := 1, slots := 4, locals := 34 } : Room).slots) (s₁.setTop (entryFrame m #[(.ref a1), (.ref r)] 3))
  refine Goes.step ?_ (fun _ k => castTop (ef_add m a1 r) k)
  show Goes p e below _ (sF s₁ m 0 #[rv a1, rv r, .unset] [])
  refine Goes.step ?_ (fun _ k => XS.aloadN X0.here hx rfl (hb hby d7_0) rfl rfl k)
  show Goes p e below _ (sF s₁ m 1 #[rv a1, rv r, .unset] [(.ref a1)])
  obtain ⟨T1, X1, e1, st1⟩ := getF X0 hx hZ hown (host := "") (Or.inl (hw _ (List.mem_of_getElem? (i := 19) rfl))) Via.refl e0 F_size (g := (mkF m 1 #[rv a1, rv r, .unset] [(.ref a1)])) rfl rfl (hb hby d7_1)
  refine Goes.step ?_ st1
  show Goes p e below _ (sF T1 m 4 #[rv a1, rv r, .unset] [(.int (1 : Int32))])
  refine Goes.step ?_ (fun _ k => XS.aloadN X1.here hx rfl (hb hby d7_4) rfl rfl k)
  show Goes p e below _ (sF T1 m 5 #[rv a1, rv r, .unset] [(.ref a1), (.int (1 : Int32))])
  obtain ⟨T2, X2, e2, st2⟩ := getF X1 hx hZ hown (host := "") (Or.inl (hw _ (List.mem_of_getElem? (i := 12) rfl))) Via.refl e1 F_columns (g := (mkF m 5 #[rv a1, rv r, .unset] [(.ref a1), (.int (1 : Int32))])) rfl rfl (hb hby d7_5)
  refine Goes.step ?_ st2
  show Goes p e below _ (sF T2 m 8 #[rv a1, rv r, .unset] [(.ref gA), (.int (1 : Int32))])
  refine Goes.step ?_ (fun _ k => XS.iconst X2.here hx rfl (hb hby d7_8) k)
  show Goes p e below _ (sF T2 m 9 #[rv a1, rv r, .unset] [(.int (0 : Int32)), (.ref gA), (.int (1 : Int32))])
  obtain ⟨cl3, Ar3, q3, S3, N_3, H3, G3⟩ := id V_gA
  have hin4 : ¬ ((0 : Int32) < 0 ∨ cl3.slots.size ≤ ((0 : Int32)).toNatClampNeg) := inb_of S3 ⟨by decide, by decide⟩
  have hat4 : cl3.slots[((0 : Int32)).toNatClampNeg]? = some (.ref x0) := H3.at hin4 rfl
  refine Goes.step ?_ (fun _ k => X2.aaload hx (j := (0 : Int32)) (v := (.ref x0)) (by rw [e2]; exact Ar3.1) (State.isArrayOf_alike hZ.alike Ar3.2.1) rfl Ar3.2.2 hin4 hat4 (g := (mkF m 9 #[rv a1, rv r, .unset] [(.int (0 : Int32)), (.ref gA), (.int (1 : Int32))])) rfl rfl (hb hby d7_9) _ k)
  show Goes p e below _ (sF T2 m 10 #[rv a1, rv r, .unset] [(.ref x0), (.int (1 : Int32))])
  obtain ⟨cl5, Ar5, q5, S5, N_5, H5, G5⟩ := id V_x0
  refine Goes.step ?_ (fun _ k => X2.arraylength hx (by rw [e2]; exact Ar5.1) (State.isArrayOf_alike hZ.alike Ar5.2.1) (g := (mkF m 10 #[rv a1, rv r, .unset] [(.ref x0), (.int (1 : Int32))])) rfl rfl (hb hby d7_10) _ k)
  rw [len_of S5 N_5]
  show Goes p e below _ (sF T2 m 11 #[rv a1, rv r, .unset] [(.int (1 : Int32)), (.int (1 : Int32))])
  refine Goes.step ?_ (fun _ k => XS.icmpNo X2.here hx rfl (hb hby d7_11) rfl (teq (by decide : (1 : Int32) = (1 : Int32))).2 k)
  show Goes p e below _ (sF T2 m 14 #[rv a1, rv r, .unset] [])
  refine Goes.step ?_ (fun _ k => XS.iconst X2.here hx rfl (hb hby d7_14) k)
  show Goes p e below _ (sF T2 m 15 #[rv a1, rv r, .unset] [(.int (0 : Int32))])
  refine Goes.step ?_ (fun _ k => XS.istoreN X2.here hx rfl (hb hby d7_15) rfl (l' := #[rv a1, rv r, iv (0 : Int32)]) rfl k)
  show Goes p e below _ (sF T2 m 16 #[rv a1, rv r, iv (0 : Int32)] [])
  refine Goes.step ?_ (fun _ k => XS.iloadN X2.here hx rfl (hb hby d7_16) rfl  k)
  show Goes p e below _ (sF T2 m 17 #[rv a1, rv r, iv (0 : Int32)] [(.int (0 : Int32))])
  refine Goes.step ?_ (fun _ k => XS.aloadN X2.here hx rfl (hb hby d7_17) rfl rfl k)
  show Goes p e below _ (sF T2 m 18 #[rv a1, rv r, iv (0 : Int32)] [(.ref a1), (.int (0 : Int32))])
  obtain ⟨T6, X6, e6, st6⟩ := getF X2 hx hZ hown (host := "") (Or.inl (hw _ (List.mem_of_getElem? (i := 12) rfl))) Via.refl e2 F_columns (g := (mkF m 18 #[rv a1, rv r, iv (0 : Int32)] [(.ref a1), (.int (0 : Int32))])) rfl rfl (hb hby d7_18)
  refine Goes.step ?_ st6
  show Goes p e below _ (sF T6 m 21 #[rv a1, rv r, iv (0 : Int32)] [(.ref gA), (.int (0 : Int32))])
  obtain ⟨cl7, Ar7, q7, S7, N_7, H7, G7⟩ := id V_gA
  refine Goes.step ?_ (fun _ k => X6.arraylength hx (by rw [e6]; exact Ar7.1) (State.isArrayOf_alike hZ.alike Ar7.2.1) (g := (mkF m 21 #[rv a1, rv r, iv (0 : Int32)] [(.ref gA), (.int (0 : Int32))])) rfl rfl (hb hby d7_21) _ k)
  rw [len_of S7 N_7]
  show Goes p e below _ (sF T6 m 22 #[rv a1, rv r, iv (0 : Int32)] [(.int (1 : Int32)), (.int (0 : Int32))])
  refine Goes.step ?_ (fun _ k => XS.icmpNo X6.here hx rfl (hb hby d7_22) rfl (tlt (by decide : (0 : Int32) < (1 : Int32))).2.1 k)
  show Goes p e below _ (sF T6 m 25 #[rv a1, rv r, iv (0 : Int32)] [])
  refine Goes.step ?_ (fun _ k => XS.aloadN X6.here hx rfl (hb hby d7_25) rfl rfl k)
  show Goes p e below _ (sF T6 m 26 #[rv a1, rv r, iv (0 : Int32)] [(.ref a1)])
  obtain ⟨T8, X8, e8, st8⟩ := getF X6 hx hZ hown (host := "") (Or.inl (hw _ (List.mem_of_getElem? (i := 12) rfl))) Via.refl e6 F_columns (g := (mkF m 26 #[rv a1, rv r, iv (0 : Int32)] [(.ref a1)])) rfl rfl (hb hby d7_26)
  refine Goes.step ?_ st8
  show Goes p e below _ (sF T8 m 29 #[rv a1, rv r, iv (0 : Int32)] [(.ref gA)])
  refine Goes.step ?_ (fun _ k => XS.iloadN X8.here hx rfl (hb hby d7_29) rfl  k)
  show Goes p e below _ (sF T8 m 30 #[rv a1, rv r, iv (0 : Int32)] [(.int (0 : Int32)), (.ref gA)])
  refine Goes.step ?_ (fun _ k => XS.aloadN X8.here hx rfl (hb hby d7_30) rfl rfl k)
  show Goes p e below _ (sF T8 m 31 #[rv a1, rv r, iv (0 : Int32)] [(.ref a1), (.int (0 : Int32)), (.ref gA)])
  obtain ⟨T9, X9, e9, st9⟩ := getF X8 hx hZ hown (host := "") (Or.inl (hw _ (List.mem_of_getElem? (i := 12) rfl))) Via.refl e8 F_columns (g := (mkF m 31 #[rv a1, rv r, iv (0 : Int32)] [(.ref a1), (.int (0 : Int32)), (.ref gA)])) rfl rfl (hb hby d7_31)
  refine Goes.step ?_ st9
  show Goes p e below _ (sF T9 m 34 #[rv a1, rv r, iv (0 : Int32)] [(.ref gA), (.int (0 : Int32)), (.ref gA)])
  refine Goes.step ?_ (fun _ k => XS.iloadN X9.here hx rfl (hb hby d7_34) rfl  k)
  show Goes p e below _ (sF T9 m 35 #[rv a1, rv r, iv (0 : Int32)] [(.int (0 : Int32)), (.ref gA), (.int (0 : Int32)), (.ref gA)])
  obtain ⟨cl10, Ar10, q10, S10, N_10, H10, G10⟩ := id V_gA
  have hin11 : ¬ ((0 : Int32) < 0 ∨ cl10.slots.size ≤ ((0 : Int32)).toNatClampNeg) := inb_of S10 ⟨by decide, by decide⟩
  have hat11 : cl10.slots[((0 : Int32)).toNatClampNeg]? = some (.ref x0) := H10.at hin11 rfl
  refine Goes.step ?_ (fun _ k => X9.aaload hx (j := (0 : Int32)) (v := (.ref x0)) (by rw [e9]; exact Ar10.1) (State.isArrayOf_alike hZ.alike Ar10.2.1) rfl Ar10.2.2 hin11 hat11 (g := (mkF m 35 #[rv a1, rv r, iv (0 : Int32)] [(.int (0 : Int32)), (.ref gA), (.int (0 : Int32)), (.ref gA)])) rfl rfl (hb hby d7_35) _ k)
  show Goes p e below _ (sF T9 m 36 #[rv a1, rv r, iv (0 : Int32)] [(.ref x0), (.int (0 : Int32)), (.ref gA)])
  refine Goes.step ?_ (fun _ k => XS.aloadN X9.here hx rfl (hb hby d7_36) rfl rfl k)
  show Goes p e below _ (sF T9 m 37 #[rv a1, rv r, iv (0 : Int32)] [(.ref a1), (.ref x0), (.int (0 : Int32)), (.ref gA)])
  obtain ⟨T12, X12, e12, st12⟩ := getF X9 hx hZ hown (host := "") (Or.inl (hw _ (List.mem_of_getElem? (i := 19) rfl))) Via.refl e9 F_size (g := (mkF m 37 #[rv a1, rv r, iv (0 : Int32)] [(.ref a1), (.ref x0), (.int (0 : Int32)), (.ref gA)])) rfl rfl (hb hby d7_37)
  refine Goes.step ?_ st12
  show Goes p e below _ (sF T12 m 40 #[rv a1, rv r, iv (0 : Int32)] [(.int (1 : Int32)), (.ref x0), (.int (0 : Int32)), (.ref gA)])
  refine Goes.step ?_ (fun _ k => XS.iconst X12.here hx rfl (hb hby d7_40) k)
  show Goes p e below _ (sF T12 m 41 #[rv a1, rv r, iv (0 : Int32)] [(.int (2 : Int32)), (.int (1 : Int32)), (.ref x0), (.int (0 : Int32)), (.ref gA)])
  refine Goes.step ?_ (fun _ k => XS.imul X12.here hx rfl (hb hby d7_41) rfl k)
  show Goes p e below _ (sF T12 m 42 #[rv a1, rv r, iv (0 : Int32)] [(.int ((1 : Int32) * (2 : Int32))), (.ref x0), (.int (0 : Int32)), (.ref gA)])
  rw [show ((1 : Int32) * (2 : Int32)) = (2 : Int32) from by decide]
  show Goes p e below _ (sF T12 m 42 #[rv a1, rv r, iv (0 : Int32)] [(.int (2 : Int32)), (.ref x0), (.int (0 : Int32)), (.ref gA)])
  obtain ⟨_, _, ⟨T13, L13, k13, n13⟩, -, X13, ⟨Lc13, hQ13, l13, y13, z13⟩, st13⟩ := Jvm.LawKit.callS X12 hx (y := (⟨"java/util/Arrays", "copyOf", "([II)[I"⟩ : MethodName)) hown (mvT hZ (hw _ (List.mem_of_getElem? (i := 21) rfl))) (mvT hZ (hw _ (List.mem_of_getElem? (i := 22) rfl))) (mvT hZ (hw _ (List.mem_of_getElem? (i := 23) rfl))) (mvT hZ (hw _ (List.mem_of_getElem? (i := 24) rfl))) (by decide) (backOf (W := 2) (rmCp1_2 l Z a0 hw [] x0 d0_0 kx0 h0 n0 Z0 V_x0) hZ (hw _ (List.mem_of_getElem? (i := 24) rfl)) (hw _ (List.mem_of_getElem? (i := 23) rfl)) (by decide) (by decide)) (g := (mkF m 42 #[rv a1, rv r, iv (0 : Int32)] [(.int (2 : Int32)), (.ref x0), (.int (0 : Int32)), (.ref gA)])) rfl (by rw [hml]; rfl) (argsL := [(.ref x0), (.int (2 : Int32))]) (rest := [(.int (0 : Int32)), (.ref gA)]) (lenOf pd__28_5bII_29_5bI rfl) rfl (by show 2 * 0 + _ ≤ _; exact Nat.le_of_eq rfl) (hb hby d7_42) (fun _ _ => ⟨rfl, e12, (by decide : 0 + 1 ≤ _), (by decide : 0 + 4 ≤ _)⟩)
  dsimp only [Pt.U, Pt.locs, Pt.cells, Pt.slots] at X13 l13 y13 z13 st13 hQ13
  subst l13 y13 z13
  obtain ⟨r13, kr13, rfl, N13q, E13, gr13, Vr13, A13⟩ := hQ13
  have N13 := Fr.app N0 N13q
  refine Goes.step ?_ st13
  have g_r13 : n0 ≤ r13 := Nat.le_trans Z0 gr13
  have sz_r13 : h0.size ≤ r13 := Nat.le_trans (Keep.refl h0 [a1, gA]).1 gr13
  have ne_a1_r13 : a1 ≠ r13 := Nat.ne_of_lt (Nat.lt_of_lt_of_le F_columns.lt gr13)
  have ne_gA_r13 : gA ≠ r13 := Nat.ne_of_lt (Nat.lt_of_lt_of_le V_gA.lt gr13)
  have ne_r_r13 : r ≠ r13 := Nat.ne_of_lt (Nat.lt_of_lt_of_le V_r.lt gr13)
  have ne_x0_r13 : x0 ≠ r13 := Nat.ne_of_lt (Nat.lt_of_lt_of_le V_x0.lt gr13)
  have Zs13 : n0 ≤ T13.heap.size := Nat.le_trans Z0 E13.1
  show Goes p e below _ (sF T13 m 45 #[rv a1, rv r, iv (0 : Int32)] [(.ref r13), (.int (0 : Int32)), (.ref gA)])
  have V_gA_14 := (V_gA.ext E13)
  obtain ⟨cl15, Ar15, q15, S15, N_15, H15, G15⟩ := id V_gA_14
  have hin16 : ¬ ((0 : Int32) < 0 ∨ cl15.slots.size ≤ ((0 : Int32)).toNatClampNeg) := inb_of S15 ⟨by decide, by decide⟩
  obtain ⟨T16, h16, X16, e16, W16, st16⟩ := stR X13 hx hZ rfl Ar15 (j := (0 : Int32)) hin16 rfl (Sto.ofVA Ar15 q15 Ov (Ins.self A13)) (g := (mkF m 45 #[rv a1, rv r, iv (0 : Int32)] [(.ref r13), (.int (0 : Int32)), (.ref gA)])) rfl rfl (hb hby d7_45)
  have V_16 : Arv Z h16 gA kA (.array .int) (1 : Int32) [(.ref r13)] .null := Arv.set Ar15 q15 S15 N_15 H15 G15 rfl W16 0 rfl (Nat.le_of_ble_eq_true rfl)
  have Zs16 : n0 ≤ h16.size := Nat.le_trans Zs13 (Keep.of_wr W16).1
  have N16 := Fr.snoc X16 N13 g_gA
  refine Goes.step ?_ st16
  show Goes p e below _ (sF T16 m 46 #[rv a1, rv r, iv (0 : Int32)] [])
  refine Goes.step ?_ (fun _ k => XS.iinc X16.here hx rfl (hb hby d7_46) rfl (l' := #[rv a1, rv r, iv ((0 : Int32) + (1 : Int32))]) rfl k)
  show Goes p e below _ (sF T16 m 49 #[rv a1, rv r, iv ((0 : Int32) + (1 : Int32))] [])
  rw [show ((0 : Int32) + (1 : Int32)) = (1 : Int32) from by decide]
  show Goes p e below _ (sF T16 m 49 #[rv a1, rv r, iv (1 : Int32)] [])
  refine Goes.step ?_ (fun _ k => XS.goto X16.here hx rfl (pc0 := 49) (pc' := 16) rfl (hb hby d7_49) (by decide) (by decide) k)
  show Goes p e below _ (sF T16 m 16 #[rv a1, rv r, iv (1 : Int32)] [])
  refine Goes.step ?_ (fun _ k => XS.iloadN X16.here hx rfl (hb hby d7_16) rfl  k)
  show Goes p e below _ (sF T16 m 17 #[rv a1, rv r, iv (1 : Int32)] [(.int (1 : Int32))])
  refine Goes.step ?_ (fun _ k => XS.aloadN X16.here hx rfl (hb hby d7_17) rfl rfl k)
  show Goes p e below _ (sF T16 m 18 #[rv a1, rv r, iv (1 : Int32)] [(.ref a1), (.int (1 : Int32))])
  have F_a1_columns_17 := ((F_columns.ext E13).other W16 (Or.inl ne_a1_gA))
  obtain ⟨T18, X18, e18, st18⟩ := getF X16 hx hZ hown (host := "") (Or.inl (hw _ (List.mem_of_getElem? (i := 12) rfl))) Via.refl e16 F_a1_columns_17 (g := (mkF m 18 #[rv a1, rv r, iv (1 : Int32)] [(.ref a1), (.int (1 : Int32))])) rfl rfl (hb hby d7_18)
  refine Goes.step ?_ st18
  show Goes p e below _ (sF T18 m 21 #[rv a1, rv r, iv (1 : Int32)] [(.ref gA), (.int (1 : Int32))])
  obtain ⟨cl19, Ar19, q19, S19, N_19, H19, G19⟩ := id V_16
  refine Goes.step ?_ (fun _ k => X18.arraylength hx (by rw [e18]; exact Ar19.1) (State.isArrayOf_alike hZ.alike Ar19.2.1) (g := (mkF m 21 #[rv a1, rv r, iv (1 : Int32)] [(.ref gA), (.int (1 : Int32))])) rfl rfl (hb hby d7_21) _ k)
  rw [len_of S19 N_19]
  show Goes p e below _ (sF T18 m 22 #[rv a1, rv r, iv (1 : Int32)] [(.int (1 : Int32)), (.int (1 : Int32))])
  refine Goes.step ?_ (fun _ k => XS.icmpYes X18.here hx rfl (pc0 := 22) (pc' := 52) rfl (hb hby d7_22) rfl (flt (by decide : ¬ ((1 : Int32) < (1 : Int32)))).2.1 (by decide) (by decide) k)
  show Goes p e below _ (sF T18 m 52 #[rv a1, rv r, iv (1 : Int32)] [])
  refine Goes.step ?_ (fun _ k => XS.iconst X18.here hx rfl (hb hby d7_52) k)
  show Goes p e below _ (sF T18 m 53 #[rv a1, rv r, iv (1 : Int32)] [(.int (0 : Int32))])
  refine Goes.step ?_ (fun _ k => XS.istoreN X18.here hx rfl (hb hby d7_53) rfl (l' := #[rv a1, rv r, iv (0 : Int32)]) rfl k)
  show Goes p e below _ (sF T18 m 54 #[rv a1, rv r, iv (0 : Int32)] [])
  refine Goes.step ?_ (fun _ k => XS.iloadN X18.here hx rfl (hb hby d7_54) rfl  k)
  show Goes p e below _ (sF T18 m 55 #[rv a1, rv r, iv (0 : Int32)] [(.int (0 : Int32))])
  refine Goes.step ?_ (fun _ k => XS.aloadN X18.here hx rfl (hb hby d7_55) rfl rfl k)
  show Goes p e below _ (sF T18 m 56 #[rv a1, rv r, iv (0 : Int32)] [(.ref a1), (.int (0 : Int32))])
  obtain ⟨T20, X20, e20, st20⟩ := getF X18 hx hZ hown (host := "") (Or.inl (hw _ (List.mem_of_getElem? (i := 12) rfl))) Via.refl e18 F_a1_columns_17 (g := (mkF m 56 #[rv a1, rv r, iv (0 : Int32)] [(.ref a1), (.int (0 : Int32))])) rfl rfl (hb hby d7_56)
  refine Goes.step ?_ st20
  show Goes p e below _ (sF T20 m 59 #[rv a1, rv r, iv (0 : Int32)] [(.ref gA), (.int (0 : Int32))])
  obtain ⟨cl21, Ar21, q21, S21, N_21, H21, G21⟩ := id V_16
  refine Goes.step ?_ (fun _ k => X20.arraylength hx (by rw [e20]; exact Ar21.1) (State.isArrayOf_alike hZ.alike Ar21.2.1) (g := (mkF m 59 #[rv a1, rv r, iv (0 : Int32)] [(.ref gA), (.int (0 : Int32))])) rfl rfl (hb hby d7_59) _ k)
  rw [len_of S21 N_21]
  show Goes p e below _ (sF T20 m 60 #[rv a1, rv r, iv (0 : Int32)] [(.int (1 : Int32)), (.int (0 : Int32))])
  refine Goes.step ?_ (fun _ k => XS.icmpNo X20.here hx rfl (hb hby d7_60) rfl (tlt (by decide : (0 : Int32) < (1 : Int32))).2.1 k)
  show Goes p e below _ (sF T20 m 63 #[rv a1, rv r, iv (0 : Int32)] [])
  refine Goes.step ?_ (fun _ k => XS.aloadN X20.here hx rfl (hb hby d7_63) rfl rfl k)
  show Goes p e below _ (sF T20 m 64 #[rv a1, rv r, iv (0 : Int32)] [(.ref a1)])
  obtain ⟨T22, X22, e22, st22⟩ := getF X20 hx hZ hown (host := "") (Or.inl (hw _ (List.mem_of_getElem? (i := 12) rfl))) Via.refl e20 F_a1_columns_17 (g := (mkF m 64 #[rv a1, rv r, iv (0 : Int32)] [(.ref a1)])) rfl rfl (hb hby d7_64)
  refine Goes.step ?_ st22
  show Goes p e below _ (sF T22 m 67 #[rv a1, rv r, iv (0 : Int32)] [(.ref gA)])
  refine Goes.step ?_ (fun _ k => XS.iloadN X22.here hx rfl (hb hby d7_67) rfl  k)
  show Goes p e below _ (sF T22 m 68 #[rv a1, rv r, iv (0 : Int32)] [(.int (0 : Int32)), (.ref gA)])
  obtain ⟨cl23, Ar23, q23, S23, N_23, H23, G23⟩ := id V_16
  have hin24 : ¬ ((0 : Int32) < 0 ∨ cl23.slots.size ≤ ((0 : Int32)).toNatClampNeg) := inb_of S23 ⟨by decide, by decide⟩
  have hat24 : cl23.slots[((0 : Int32)).toNatClampNeg]? = some (.ref r13) := H23.at hin24 rfl
  refine Goes.step ?_ (fun _ k => X22.aaload hx (j := (0 : Int32)) (v := (.ref r13)) (by rw [e22]; exact Ar23.1) (State.isArrayOf_alike hZ.alike Ar23.2.1) rfl Ar23.2.2 hin24 hat24 (g := (mkF m 68 #[rv a1, rv r, iv (0 : Int32)] [(.int (0 : Int32)), (.ref gA)])) rfl rfl (hb hby d7_68) _ k)
  show Goes p e below _ (sF T22 m 69 #[rv a1, rv r, iv (0 : Int32)] [(.ref r13)])
  refine Goes.step ?_ (fun _ k => XS.aloadN X22.here hx rfl (hb hby d7_69) rfl rfl k)
  show Goes p e below _ (sF T22 m 70 #[rv a1, rv r, iv (0 : Int32)] [(.ref a1), (.ref r13)])
  have F_a1_size_25 := ((F_size.ext E13).other W16 (Or.inl ne_a1_gA))
  obtain ⟨T26, X26, e26, st26⟩ := getF X22 hx hZ hown (host := "") (Or.inl (hw _ (List.mem_of_getElem? (i := 19) rfl))) Via.refl e22 F_a1_size_25 (g := (mkF m 70 #[rv a1, rv r, iv (0 : Int32)] [(.ref a1), (.ref r13)])) rfl rfl (hb hby d7_70)
  refine Goes.step ?_ st26
  show Goes p e below _ (sF T26 m 73 #[rv a1, rv r, iv (0 : Int32)] [(.int (1 : Int32)), (.ref r13)])
  refine Goes.step ?_ (fun _ k => XS.aloadN X26.here hx rfl (hb hby d7_73) rfl rfl k)
  show Goes p e below _ (sF T26 m 74 #[rv a1, rv r, iv (0 : Int32)] [(.ref r), (.int (1 : Int32)), (.ref r13)])
  refine Goes.step ?_ (fun _ k => XS.iloadN X26.here hx rfl (hb hby d7_74) rfl  k)
  show Goes p e below _ (sF T26 m 75 #[rv a1, rv r, iv (0 : Int32)] [(.int (0 : Int32)), (.ref r), (.int (1 : Int32)), (.ref r13)])
  have V_r_27 := ((V_r.ext E13).other W16 ne_r_gA)
  obtain ⟨cl28, Ar28, q28, S28, N_28, H28, G28⟩ := id V_r_27
  have hin29 : ¬ ((0 : Int32) < 0 ∨ cl28.slots.size ≤ ((0 : Int32)).toNatClampNeg) := inb_of S28 ⟨by decide, by decide⟩
  have hat29 : cl28.slots[((0 : Int32)).toNatClampNeg]? = some (.int y0) := H28.at hin29 rfl
  refine Goes.step ?_ (fun _ k => X26.iaload hx (j := (0 : Int32)) (v := (.int y0)) (by rw [e26]; exact Ar28.1) (State.isArrayOf_alike hZ.alike Ar28.2.1) Ar28.2.2 hin29 hat29 (g := (mkF m 75 #[rv a1, rv r, iv (0 : Int32)] [(.int (0 : Int32)), (.ref r), (.int (1 : Int32)), (.ref r13)])) rfl rfl (hb hby d7_75) _ k)
  show Goes p e below _ (sF T26 m 76 #[rv a1, rv r, iv (0 : Int32)] [(.int y0), (.int (1 : Int32)), (.ref r13)])
  have V_r13_30 := (Vr13.other W16 (Ne.symm ne_gA_r13))
  obtain ⟨cl31, Ar31, q31, S31, N_31, H31, G31⟩ := id V_r13_30
  have hin32 : ¬ ((1 : Int32) < 0 ∨ cl31.slots.size ≤ ((1 : Int32)).toNatClampNeg) := inb_of S31 ⟨by decide, by decide⟩
  obtain ⟨T32, h32, X32, e32, W32, st32⟩ := stI X26 hx hZ e26 Ar31 (j := (1 : Int32)) hin32 (g := (mkF m 76 #[rv a1, rv r, iv (0 : Int32)] [(.int y0), (.int (1 : Int32)), (.ref r13)])) rfl rfl (hb hby d7_76)
  have V_32 : Arv Z h32 r13 kr13 .int (2 : Int32) [(.int d0_0), (.int y0)] (.int (0 : Int32)) := Arv.set Ar31 q31 S31 N_31 H31 G31 rfl W32 1 rfl (Nat.le_of_ble_eq_true rfl)
  have Zs32 : n0 ≤ h32.size := Nat.le_trans Zs16 (Keep.of_wr W32).1
  have N32 := Fr.snoc X32 N16 g_r13
  refine Goes.step ?_ st32
  show Goes p e below _ (sF T32 m 77 #[rv a1, rv r, iv (0 : Int32)] [])
  refine Goes.step ?_ (fun _ k => XS.iinc X32.here hx rfl (hb hby d7_77) rfl (l' := #[rv a1, rv r, iv ((0 : Int32) + (1 : Int32))]) rfl k)
  show Goes p e below _ (sF T32 m 80 #[rv a1, rv r, iv ((0 : Int32) + (1 : Int32))] [])
  rw [show ((0 : Int32) + (1 : Int32)) = (1 : Int32) from by decide]
  show Goes p e below _ (sF T32 m 80 #[rv a1, rv r, iv (1 : Int32)] [])
  refine Goes.step ?_ (fun _ k => XS.goto X32.here hx rfl (pc0 := 80) (pc' := 54) rfl (hb hby d7_80) (by decide) (by decide) k)
  show Goes p e below _ (sF T32 m 54 #[rv a1, rv r, iv (1 : Int32)] [])
  refine Goes.step ?_ (fun _ k => XS.iloadN X32.here hx rfl (hb hby d7_54) rfl  k)
  show Goes p e below _ (sF T32 m 55 #[rv a1, rv r, iv (1 : Int32)] [(.int (1 : Int32))])
  refine Goes.step ?_ (fun _ k => XS.aloadN X32.here hx rfl (hb hby d7_55) rfl rfl k)
  show Goes p e below _ (sF T32 m 56 #[rv a1, rv r, iv (1 : Int32)] [(.ref a1), (.int (1 : Int32))])
  have F_a1_columns_33 := (F_a1_columns_17.other W32 (Or.inl ne_a1_r13))
  obtain ⟨T34, X34, e34, st34⟩ := getF X32 hx hZ hown (host := "") (Or.inl (hw _ (List.mem_of_getElem? (i := 12) rfl))) Via.refl e32 F_a1_columns_33 (g := (mkF m 56 #[rv a1, rv r, iv (1 : Int32)] [(.ref a1), (.int (1 : Int32))])) rfl rfl (hb hby d7_56)
  refine Goes.step ?_ st34
  show Goes p e below _ (sF T34 m 59 #[rv a1, rv r, iv (1 : Int32)] [(.ref gA), (.int (1 : Int32))])
  have V_gA_35 := (V_16.other W32 ne_gA_r13)
  obtain ⟨cl36, Ar36, q36, S36, N_36, H36, G36⟩ := id V_gA_35
  refine Goes.step ?_ (fun _ k => X34.arraylength hx (by rw [e34]; exact Ar36.1) (State.isArrayOf_alike hZ.alike Ar36.2.1) (g := (mkF m 59 #[rv a1, rv r, iv (1 : Int32)] [(.ref gA), (.int (1 : Int32))])) rfl rfl (hb hby d7_59) _ k)
  rw [len_of S36 N_36]
  show Goes p e below _ (sF T34 m 60 #[rv a1, rv r, iv (1 : Int32)] [(.int (1 : Int32)), (.int (1 : Int32))])
  refine Goes.step ?_ (fun _ k => XS.icmpYes X34.here hx rfl (pc0 := 60) (pc' := 83) rfl (hb hby d7_60) rfl (flt (by decide : ¬ ((1 : Int32) < (1 : Int32)))).2.1 (by decide) (by decide) k)
  show Goes p e below _ (sF T34 m 83 #[rv a1, rv r, iv (1 : Int32)] [])
  refine Goes.step ?_ (fun _ k => XS.aloadN X34.here hx rfl (hb hby d7_83) rfl rfl k)
  show Goes p e below _ (sF T34 m 84 #[rv a1, rv r, iv (1 : Int32)] [(.ref a1)])
  refine Goes.step ?_ (fun _ k => XS.dup X34.here hx rfl (hb hby d7_84) rfl rfl k)
  show Goes p e below _ (sF T34 m 85 #[rv a1, rv r, iv (1 : Int32)] [(.ref a1), (.ref a1)])
  have F_a1_size_37 := (F_a1_size_25.other W32 (Or.inl ne_a1_r13))
  obtain ⟨T38, X38, e38, st38⟩ := getF X34 hx hZ hown (host := "") (Or.inl (hw _ (List.mem_of_getElem? (i := 19) rfl))) Via.refl e34 F_a1_size_37 (g := (mkF m 85 #[rv a1, rv r, iv (1 : Int32)] [(.ref a1), (.ref a1)])) rfl rfl (hb hby d7_85)
  refine Goes.step ?_ st38
  show Goes p e below _ (sF T38 m 88 #[rv a1, rv r, iv (1 : Int32)] [(.int (1 : Int32)), (.ref a1)])
  refine Goes.step ?_ (fun _ k => XS.iconst X38.here hx rfl (hb hby d7_88) k)
  show Goes p e below _ (sF T38 m 89 #[rv a1, rv r, iv (1 : Int32)] [(.int (1 : Int32)), (.int (1 : Int32)), (.ref a1)])
  refine Goes.step ?_ (fun _ k => XS.iadd X38.here hx rfl (hb hby d7_89) rfl k)
  show Goes p e below _ (sF T38 m 90 #[rv a1, rv r, iv (1 : Int32)] [(.int ((1 : Int32) + (1 : Int32))), (.ref a1)])
  rw [show ((1 : Int32) + (1 : Int32)) = (2 : Int32) from by decide]
  show Goes p e below _ (sF T38 m 90 #[rv a1, rv r, iv (1 : Int32)] [(.int (2 : Int32)), (.ref a1)])
  have E_a1_40 := (((E_a1.ext E13).wr W16).wr W32)
  obtain ⟨T39, h39, X39, e39, W39, st39⟩ := putF X38 hx hZ hown (host := "") (Or.inl (hw _ (List.mem_of_getElem? (i := 19) rfl))) Via.refl e38 F_a1_size_37 E_a1_40 (Or.inl (hw _ (List.mem_of_getElem? (i := 20) rfl))) (hw _ (List.mem_of_getElem? (i := 2) rfl)) (ty := .int) (by decide) rfl rfl (g := (mkF m 90 #[rv a1, rv r, iv (1 : Int32)] [(.int (2 : Int32)), (.ref a1)])) rfl rfl (hb hby d7_90)
  have Fw39 := F_a1_size_37.same W39
  have Zs39 : n0 ≤ h39.size := Nat.le_trans Zs32 (Keep.of_wr W39).1
  have N39 := Fr.snoc X39 N32 g_a1
  refine Goes.step ?_ st39
  show Goes p e below _ (sF T39 m 93 #[rv a1, rv r, iv (1 : Int32)] [])
  refine own_outV X39 hx hlk hret (hb hby d7_93) ?_ (by decide) (by decide)
  show QAdd1_1 Z a1 gA kA y0 y1 y2 d0_0 h0 n0 _ T39.heap _
  rw [e39]
  exact ⟨r13, kr13, rfl, N39, (((((Keep.refl h0 [a1, gA]).ext E13).wr W16 (Or.inl (List.mem_of_getElem? (i := 1) rfl))).wr W32 (Or.inr sz_r13)).wr W39 (Or.inl (List.mem_of_getElem? (i := 0) rfl))), (F_a1_columns_33.other W39 (Or.inr (slot_ne (Or.inr (hw _ (List.mem_of_getElem? (i := 13) rfl))) (Or.inl (hw _ (List.mem_of_getElem? (i := 20) rfl))) (by decide) (t := (.array (.array .int))) (t' := .int) (by decide) (by decide)))), Fw39, (V_gA_35.other W39 (Ne.symm ne_a1_gA)), (V_32.other W39 (Ne.symm ne_a1_r13)), (((A13.wr W16).wr W32).wr W39), sz_r13⟩
def QAdd1_2 (Z : State) (a1 gA : Addr) (kA : ClassId) (y0 y1 y2 : Int32) (d0_0 : Int32) (d0_1 : Int32) (h0 : Heap) (n0 : Nat) (v : Option Value) (h : Heap) (L : List Loc) : Prop := ∃ (z0 : Addr) (kz0 : ClassId), v = none ∧ Fr n0 L ∧ Keep h0 h [a1, gA] ∧ Fld Z h a1 "com/example/clio/clio/repository/Columns" "columns" "[[I" (.ref gA) ∧ Fld Z h a1 "com/example/clio/clio/repository/Columns" "size" "I" (.int (3 : Int32)) ∧ Arv Z h gA kA (.array .int) (1 : Int32) [(.ref z0)] .null ∧ Arv Z h z0 kz0 .int (4 : Int32) [(.int d0_0), (.int d0_1), (.int y0), (.int (0 : Int32))] (.int (0 : Int32)) ∧ Exa Z h z0 "[I" ∧ h0.size ≤ z0
set_option maxRecDepth 65536 in
set_option maxHeartbeats 40000000 in
theorem rmAdd1_2 (l : Launch) (Z : State) (a0 : Array Value) (hw : ∀ d ∈ tables_1, d.before a0 Z = true) (ws : List Jvm.Cond) (a1 : Addr) (r : Addr) (gA : Addr) (kA : ClassId) (kr : ClassId) (y0 : Int32) (y1 : Int32) (y2 : Int32) (x0 : Addr) (kx0 : ClassId) (d0_0 : Int32) (d0_1 : Int32) (h0 : Heap) (n0 : Nat) (Z0 : n0 ≤ h0.size) (F_columns : Fld Z h0 a1 "com/example/clio/clio/repository/Columns" "columns" "[[I" (.ref gA)) (F_size : Fld Z h0 a1 "com/example/clio/clio/repository/Columns" "size" "I" (.int (2 : Int32))) (E_a1 : Exa Z h0 a1 "com/example/clio/clio/repository/Columns") (V_gA : Arv Z h0 gA kA (.array .int) (1 : Int32) [(.ref x0)] .null) (Ov : OvrA Z kA .int "[I") (V_r : Arv Z h0 r kr .int (3 : Int32) [(.int y0), (.int y1), (.int y2)] (.int (0 : Int32))) (V_x0 : Arv Z h0 x0 kx0 .int (2 : Int32) [(.int d0_0), (.int d0_1)] (.int (0 : Int32))) (E_x0 : Exa Z h0 x0 "[I") (ne_a1_r : a1 ≠ r) (ne_a1_gA : a1 ≠ gA) (ne_a1_x0 : a1 ≠ x0) (ne_r_gA : r ≠ gA) (ne_r_x0 : r ≠ x0) (ne_gA_x0 : gA ≠ x0) (g_a1 : n0 ≤ a1) (g_gA : n0 ≤ gA) (g_x0 : n0 ≤ x0) :
    MetFree l (⟨"com/example/clio/clio/repository/Columns", "add", "([I)V"⟩ : MethodName) (head1 (Jvm.Cond.code (⟨"com/example/clio/clio/repository/Columns", "add", "([I)V"⟩ : MethodName) prog_22_method_2_code 3 none :: ws) ({ frames := 2, cells := 1, slots := 4, locals := 34 } : Room)) (fun a U => a = #[(.ref a1), (.ref r)] ∧ Z.Warmed39 U.vm ∧ U.heap = h0) (fun _ _ _ _ _ => True) (fun _ U o U' => ∃ v L, o = .returned v ∧ QAdd1_2 Z a1 gA kA y0 y1 y2 d0_0 d0_1 h0 n0 v U'.heap L ∧ FrameEnd U o U' L ({ frames := 2, cells := 1, slots := 4, locals := 34 } : Room).cells ({ frames := 2, cells := 1, slots := 4, locals := 34 } : Room).slots) := by
  refine MetFree.of_bodySF (plainFor_of_name pn_com_example_clio_clio_repository_Columns) hisR ?_
  intro p e s m args below meth c s₁ Bd hml0 hP hK
  obtain ⟨rfl, hZ, hh⟩ := hP
  have hx := Bd.exec
  have hby := Bd.bytes
  have hlk : meth.locks = false := BodyLoose.notSynchronized Bd
  have hml : c.maxLocals = 3 := hml0
  have hown : s.vm.findClass "com/example/clio/clio/repository/Columns" = some m.cls := findClass_of_methodNamed Bd.named
  have hnm := (name_of_methodNamed Bd.named Bd.method).1
  have X0 : Stand p l e ({ frames := 2, cells := 1, slots := 4, locals := 34 } : Room) s m #[(.ref a1), (.ref r)] below meth c s₁ [] 0 0 := Stand.of_body Bd
  have e0 : s₁.heap = h0 := by rw [← hh, Bd.state]; rfl
  have N0 := Fr.nil n0
  have hret := Bd.returns
  show Goes p e below (fun o U' => ∃ v L, o = .returned v ∧ QAdd1_2 Z a1 gA kA y0 y1 y2 d0_0 d0_1 h0 n0 v U'.heap L ∧ FrameEnd s o U' L ({ frames := 2, cells := 1, slots := 4, locals := 34 } : Room).cells ({ frames := 2, cells := 1, slots := 4, locals := 34 } : Room).slots) (s₁.setTop (entryFrame m #[(.ref a1), (.ref r)] 3))
  refine Goes.step ?_ (fun _ k => castTop (ef_add m a1 r) k)
  show Goes p e below _ (sF s₁ m 0 #[rv a1, rv r, .unset] [])
  refine Goes.step ?_ (fun _ k => XS.aloadN X0.here hx rfl (hb hby d7_0) rfl rfl k)
  show Goes p e below _ (sF s₁ m 1 #[rv a1, rv r, .unset] [(.ref a1)])
  obtain ⟨T1, X1, e1, st1⟩ := getF X0 hx hZ hown (host := "") (Or.inl (hw _ (List.mem_of_getElem? (i := 19) rfl))) Via.refl e0 F_size (g := (mkF m 1 #[rv a1, rv r, .unset] [(.ref a1)])) rfl rfl (hb hby d7_1)
  refine Goes.step ?_ st1
  show Goes p e below _ (sF T1 m 4 #[rv a1, rv r, .unset] [(.int (2 : Int32))])
  refine Goes.step ?_ (fun _ k => XS.aloadN X1.here hx rfl (hb hby d7_4) rfl rfl k)
  show Goes p e below _ (sF T1 m 5 #[rv a1, rv r, .unset] [(.ref a1), (.int (2 : Int32))])
  obtain ⟨T2, X2, e2, st2⟩ := getF X1 hx hZ hown (host := "") (Or.inl (hw _ (List.mem_of_getElem? (i := 12) rfl))) Via.refl e1 F_columns (g := (mkF m 5 #[rv a1, rv r, .unset] [(.ref a1), (.int (2 : Int32))])) rfl rfl (hb hby d7_5)
  refine Goes.step ?_ st2
  show Goes p e below _ (sF T2 m 8 #[rv a1, rv r, .unset] [(.ref gA), (.int (2 : Int32))])
  refine Goes.step ?_ (fun _ k => XS.iconst X2.here hx rfl (hb hby d7_8) k)
  show Goes p e below _ (sF T2 m 9 #[rv a1, rv r, .unset] [(.int (0 : Int32)), (.ref gA), (.int (2 : Int32))])
  obtain ⟨cl3, Ar3, q3, S3, N_3, H3, G3⟩ := id V_gA
  have hin4 : ¬ ((0 : Int32) < 0 ∨ cl3.slots.size ≤ ((0 : Int32)).toNatClampNeg) := inb_of S3 ⟨by decide, by decide⟩
  have hat4 : cl3.slots[((0 : Int32)).toNatClampNeg]? = some (.ref x0) := H3.at hin4 rfl
  refine Goes.step ?_ (fun _ k => X2.aaload hx (j := (0 : Int32)) (v := (.ref x0)) (by rw [e2]; exact Ar3.1) (State.isArrayOf_alike hZ.alike Ar3.2.1) rfl Ar3.2.2 hin4 hat4 (g := (mkF m 9 #[rv a1, rv r, .unset] [(.int (0 : Int32)), (.ref gA), (.int (2 : Int32))])) rfl rfl (hb hby d7_9) _ k)
  show Goes p e below _ (sF T2 m 10 #[rv a1, rv r, .unset] [(.ref x0), (.int (2 : Int32))])
  obtain ⟨cl5, Ar5, q5, S5, N_5, H5, G5⟩ := id V_x0
  refine Goes.step ?_ (fun _ k => X2.arraylength hx (by rw [e2]; exact Ar5.1) (State.isArrayOf_alike hZ.alike Ar5.2.1) (g := (mkF m 10 #[rv a1, rv r, .unset] [(.ref x0), (.int (2 : Int32))])) rfl rfl (hb hby d7_10) _ k)
  rw [len_of S5 N_5]
  show Goes p e below _ (sF T2 m 11 #[rv a1, rv r, .unset] [(.int (2 : Int32)), (.int (2 : Int32))])
  refine Goes.step ?_ (fun _ k => XS.icmpNo X2.here hx rfl (hb hby d7_11) rfl (teq (by decide : (2 : Int32) = (2 : Int32))).2 k)
  show Goes p e below _ (sF T2 m 14 #[rv a1, rv r, .unset] [])
  refine Goes.step ?_ (fun _ k => XS.iconst X2.here hx rfl (hb hby d7_14) k)
  show Goes p e below _ (sF T2 m 15 #[rv a1, rv r, .unset] [(.int (0 : Int32))])
  refine Goes.step ?_ (fun _ k => XS.istoreN X2.here hx rfl (hb hby d7_15) rfl (l' := #[rv a1, rv r, iv (0 : Int32)]) rfl k)
  show Goes p e below _ (sF T2 m 16 #[rv a1, rv r, iv (0 : Int32)] [])
  refine Goes.step ?_ (fun _ k => XS.iloadN X2.here hx rfl (hb hby d7_16) rfl  k)
  show Goes p e below _ (sF T2 m 17 #[rv a1, rv r, iv (0 : Int32)] [(.int (0 : Int32))])
  refine Goes.step ?_ (fun _ k => XS.aloadN X2.here hx rfl (hb hby d7_17) rfl rfl k)
  show Goes p e below _ (sF T2 m 18 #[rv a1, rv r, iv (0 : Int32)] [(.ref a1), (.int (0 : Int32))])
  obtain ⟨T6, X6, e6, st6⟩ := getF X2 hx hZ hown (host := "") (Or.inl (hw _ (List.mem_of_getElem? (i := 12) rfl))) Via.refl e2 F_columns (g := (mkF m 18 #[rv a1, rv r, iv (0 : Int32)] [(.ref a1), (.int (0 : Int32))])) rfl rfl (hb hby d7_18)
  refine Goes.step ?_ st6
  show Goes p e below _ (sF T6 m 21 #[rv a1, rv r, iv (0 : Int32)] [(.ref gA), (.int (0 : Int32))])
  obtain ⟨cl7, Ar7, q7, S7, N_7, H7, G7⟩ := id V_gA
  refine Goes.step ?_ (fun _ k => X6.arraylength hx (by rw [e6]; exact Ar7.1) (State.isArrayOf_alike hZ.alike Ar7.2.1) (g := (mkF m 21 #[rv a1, rv r, iv (0 : Int32)] [(.ref gA), (.int (0 : Int32))])) rfl rfl (hb hby d7_21) _ k)
  rw [len_of S7 N_7]
  show Goes p e below _ (sF T6 m 22 #[rv a1, rv r, iv (0 : Int32)] [(.int (1 : Int32)), (.int (0 : Int32))])
  refine Goes.step ?_ (fun _ k => XS.icmpNo X6.here hx rfl (hb hby d7_22) rfl (tlt (by decide : (0 : Int32) < (1 : Int32))).2.1 k)
  show Goes p e below _ (sF T6 m 25 #[rv a1, rv r, iv (0 : Int32)] [])
  refine Goes.step ?_ (fun _ k => XS.aloadN X6.here hx rfl (hb hby d7_25) rfl rfl k)
  show Goes p e below _ (sF T6 m 26 #[rv a1, rv r, iv (0 : Int32)] [(.ref a1)])
  obtain ⟨T8, X8, e8, st8⟩ := getF X6 hx hZ hown (host := "") (Or.inl (hw _ (List.mem_of_getElem? (i := 12) rfl))) Via.refl e6 F_columns (g := (mkF m 26 #[rv a1, rv r, iv (0 : Int32)] [(.ref a1)])) rfl rfl (hb hby d7_26)
  refine Goes.step ?_ st8
  show Goes p e below _ (sF T8 m 29 #[rv a1, rv r, iv (0 : Int32)] [(.ref gA)])
  refine Goes.step ?_ (fun _ k => XS.iloadN X8.here hx rfl (hb hby d7_29) rfl  k)
  show Goes p e below _ (sF T8 m 30 #[rv a1, rv r, iv (0 : Int32)] [(.int (0 : Int32)), (.ref gA)])
  refine Goes.step ?_ (fun _ k => XS.aloadN X8.here hx rfl (hb hby d7_30) rfl rfl k)
  show Goes p e below _ (sF T8 m 31 #[rv a1, rv r, iv (0 : Int32)] [(.ref a1), (.int (0 : Int32)), (.ref gA)])
  obtain ⟨T9, X9, e9, st9⟩ := getF X8 hx hZ hown (host := "") (Or.inl (hw _ (List.mem_of_getElem? (i := 12) rfl))) Via.refl e8 F_columns (g := (mkF m 31 #[rv a1, rv r, iv (0 : Int32)] [(.ref a1), (.int (0 : Int32)), (.ref gA)])) rfl rfl (hb hby d7_31)
  refine Goes.step ?_ st9
  show Goes p e below _ (sF T9 m 34 #[rv a1, rv r, iv (0 : Int32)] [(.ref gA), (.int (0 : Int32)), (.ref gA)])
  refine Goes.step ?_ (fun _ k => XS.iloadN X9.here hx rfl (hb hby d7_34) rfl  k)
  show Goes p e below _ (sF T9 m 35 #[rv a1, rv r, iv (0 : Int32)] [(.int (0 : Int32)), (.ref gA), (.int (0 : Int32)), (.ref gA)])
  obtain ⟨cl10, Ar10, q10, S10, N_10, H10, G10⟩ := id V_gA
  have hin11 : ¬ ((0 : Int32) < 0 ∨ cl10.slots.size ≤ ((0 : Int32)).toNatClampNeg) := inb_of S10 ⟨by decide, by decide⟩
  have hat11 : cl10.slots[((0 : Int32)).toNatClampNeg]? = some (.ref x0) := H10.at hin11 rfl
  refine Goes.step ?_ (fun _ k => X9.aaload hx (j := (0 : Int32)) (v := (.ref x0)) (by rw [e9]; exact Ar10.1) (State.isArrayOf_alike hZ.alike Ar10.2.1) rfl Ar10.2.2 hin11 hat11 (g := (mkF m 35 #[rv a1, rv r, iv (0 : Int32)] [(.int (0 : Int32)), (.ref gA), (.int (0 : Int32)), (.ref gA)])) rfl rfl (hb hby d7_35) _ k)
  show Goes p e below _ (sF T9 m 36 #[rv a1, rv r, iv (0 : Int32)] [(.ref x0), (.int (0 : Int32)), (.ref gA)])
  refine Goes.step ?_ (fun _ k => XS.aloadN X9.here hx rfl (hb hby d7_36) rfl rfl k)
  show Goes p e below _ (sF T9 m 37 #[rv a1, rv r, iv (0 : Int32)] [(.ref a1), (.ref x0), (.int (0 : Int32)), (.ref gA)])
  obtain ⟨T12, X12, e12, st12⟩ := getF X9 hx hZ hown (host := "") (Or.inl (hw _ (List.mem_of_getElem? (i := 19) rfl))) Via.refl e9 F_size (g := (mkF m 37 #[rv a1, rv r, iv (0 : Int32)] [(.ref a1), (.ref x0), (.int (0 : Int32)), (.ref gA)])) rfl rfl (hb hby d7_37)
  refine Goes.step ?_ st12
  show Goes p e below _ (sF T12 m 40 #[rv a1, rv r, iv (0 : Int32)] [(.int (2 : Int32)), (.ref x0), (.int (0 : Int32)), (.ref gA)])
  refine Goes.step ?_ (fun _ k => XS.iconst X12.here hx rfl (hb hby d7_40) k)
  show Goes p e below _ (sF T12 m 41 #[rv a1, rv r, iv (0 : Int32)] [(.int (2 : Int32)), (.int (2 : Int32)), (.ref x0), (.int (0 : Int32)), (.ref gA)])
  refine Goes.step ?_ (fun _ k => XS.imul X12.here hx rfl (hb hby d7_41) rfl k)
  show Goes p e below _ (sF T12 m 42 #[rv a1, rv r, iv (0 : Int32)] [(.int ((2 : Int32) * (2 : Int32))), (.ref x0), (.int (0 : Int32)), (.ref gA)])
  rw [show ((2 : Int32) * (2 : Int32)) = (4 : Int32) from by decide]
  show Goes p e below _ (sF T12 m 42 #[rv a1, rv r, iv (0 : Int32)] [(.int (4 : Int32)), (.ref x0), (.int (0 : Int32)), (.ref gA)])
  obtain ⟨_, _, ⟨T13, L13, k13, n13⟩, -, X13, ⟨Lc13, hQ13, l13, y13, z13⟩, st13⟩ := Jvm.LawKit.callS X12 hx (y := (⟨"java/util/Arrays", "copyOf", "([II)[I"⟩ : MethodName)) hown (mvT hZ (hw _ (List.mem_of_getElem? (i := 21) rfl))) (mvT hZ (hw _ (List.mem_of_getElem? (i := 22) rfl))) (mvT hZ (hw _ (List.mem_of_getElem? (i := 23) rfl))) (mvT hZ (hw _ (List.mem_of_getElem? (i := 24) rfl))) (by decide) (backOf (W := 2) (rmCp2_4 l Z a0 hw [] x0 d0_0 d0_1 kx0 h0 n0 Z0 V_x0) hZ (hw _ (List.mem_of_getElem? (i := 24) rfl)) (hw _ (List.mem_of_getElem? (i := 23) rfl)) (by decide) (by decide)) (g := (mkF m 42 #[rv a1, rv r, iv (0 : Int32)] [(.int (4 : Int32)), (.ref x0), (.int (0 : Int32)), (.ref gA)])) rfl (by rw [hml]; rfl) (argsL := [(.ref x0), (.int (4 : Int32))]) (rest := [(.int (0 : Int32)), (.ref gA)]) (lenOf pd__28_5bII_29_5bI rfl) rfl (by show 2 * 0 + _ ≤ _; exact Nat.le_of_eq rfl) (hb hby d7_42) (fun _ _ => ⟨rfl, e12, (by decide : 0 + 1 ≤ _), (by decide : 0 + 4 ≤ _)⟩)
  dsimp only [Pt.U, Pt.locs, Pt.cells, Pt.slots] at X13 l13 y13 z13 st13 hQ13
  subst l13 y13 z13
  obtain ⟨r13, kr13, rfl, N13q, E13, gr13, Vr13, A13⟩ := hQ13
  have N13 := Fr.app N0 N13q
  refine Goes.step ?_ st13
  have g_r13 : n0 ≤ r13 := Nat.le_trans Z0 gr13
  have sz_r13 : h0.size ≤ r13 := Nat.le_trans (Keep.refl h0 [a1, gA]).1 gr13
  have ne_a1_r13 : a1 ≠ r13 := Nat.ne_of_lt (Nat.lt_of_lt_of_le F_columns.lt gr13)
  have ne_gA_r13 : gA ≠ r13 := Nat.ne_of_lt (Nat.lt_of_lt_of_le V_gA.lt gr13)
  have ne_r_r13 : r ≠ r13 := Nat.ne_of_lt (Nat.lt_of_lt_of_le V_r.lt gr13)
  have ne_x0_r13 : x0 ≠ r13 := Nat.ne_of_lt (Nat.lt_of_lt_of_le V_x0.lt gr13)
  have Zs13 : n0 ≤ T13.heap.size := Nat.le_trans Z0 E13.1
  show Goes p e below _ (sF T13 m 45 #[rv a1, rv r, iv (0 : Int32)] [(.ref r13), (.int (0 : Int32)), (.ref gA)])
  have V_gA_14 := (V_gA.ext E13)
  obtain ⟨cl15, Ar15, q15, S15, N_15, H15, G15⟩ := id V_gA_14
  have hin16 : ¬ ((0 : Int32) < 0 ∨ cl15.slots.size ≤ ((0 : Int32)).toNatClampNeg) := inb_of S15 ⟨by decide, by decide⟩
  obtain ⟨T16, h16, X16, e16, W16, st16⟩ := stR X13 hx hZ rfl Ar15 (j := (0 : Int32)) hin16 rfl (Sto.ofVA Ar15 q15 Ov (Ins.self A13)) (g := (mkF m 45 #[rv a1, rv r, iv (0 : Int32)] [(.ref r13), (.int (0 : Int32)), (.ref gA)])) rfl rfl (hb hby d7_45)
  have V_16 : Arv Z h16 gA kA (.array .int) (1 : Int32) [(.ref r13)] .null := Arv.set Ar15 q15 S15 N_15 H15 G15 rfl W16 0 rfl (Nat.le_of_ble_eq_true rfl)
  have Zs16 : n0 ≤ h16.size := Nat.le_trans Zs13 (Keep.of_wr W16).1
  have N16 := Fr.snoc X16 N13 g_gA
  refine Goes.step ?_ st16
  show Goes p e below _ (sF T16 m 46 #[rv a1, rv r, iv (0 : Int32)] [])
  refine Goes.step ?_ (fun _ k => XS.iinc X16.here hx rfl (hb hby d7_46) rfl (l' := #[rv a1, rv r, iv ((0 : Int32) + (1 : Int32))]) rfl k)
  show Goes p e below _ (sF T16 m 49 #[rv a1, rv r, iv ((0 : Int32) + (1 : Int32))] [])
  rw [show ((0 : Int32) + (1 : Int32)) = (1 : Int32) from by decide]
  show Goes p e below _ (sF T16 m 49 #[rv a1, rv r, iv (1 : Int32)] [])
  refine Goes.step ?_ (fun _ k => XS.goto X16.here hx rfl (pc0 := 49) (pc' := 16) rfl (hb hby d7_49) (by decide) (by decide) k)
  show Goes p e below _ (sF T16 m 16 #[rv a1, rv r, iv (1 : Int32)] [])
  refine Goes.step ?_ (fun _ k => XS.iloadN X16.here hx rfl (hb hby d7_16) rfl  k)
  show Goes p e below _ (sF T16 m 17 #[rv a1, rv r, iv (1 : Int32)] [(.int (1 : Int32))])
  refine Goes.step ?_ (fun _ k => XS.aloadN X16.here hx rfl (hb hby d7_17) rfl rfl k)
  show Goes p e below _ (sF T16 m 18 #[rv a1, rv r, iv (1 : Int32)] [(.ref a1), (.int (1 : Int32))])
  have F_a1_columns_17 := ((F_columns.ext E13).other W16 (Or.inl ne_a1_gA))
  obtain ⟨T18, X18, e18, st18⟩ := getF X16 hx hZ hown (host := "") (Or.inl (hw _ (List.mem_of_getElem? (i := 12) rfl))) Via.refl e16 F_a1_columns_17 (g := (mkF m 18 #[rv a1, rv r, iv (1 : Int32)] [(.ref a1), (.int (1 : Int32))])) rfl rfl (hb hby d7_18)
  refine Goes.step ?_ st18
  show Goes p e below _ (sF T18 m 21 #[rv a1, rv r, iv (1 : Int32)] [(.ref gA), (.int (1 : Int32))])
  obtain ⟨cl19, Ar19, q19, S19, N_19, H19, G19⟩ := id V_16
  refine Goes.step ?_ (fun _ k => X18.arraylength hx (by rw [e18]; exact Ar19.1) (State.isArrayOf_alike hZ.alike Ar19.2.1) (g := (mkF m 21 #[rv a1, rv r, iv (1 : Int32)] [(.ref gA), (.int (1 : Int32))])) rfl rfl (hb hby d7_21) _ k)
  rw [len_of S19 N_19]
  show Goes p e below _ (sF T18 m 22 #[rv a1, rv r, iv (1 : Int32)] [(.int (1 : Int32)), (.int (1 : Int32))])
  refine Goes.step ?_ (fun _ k => XS.icmpYes X18.here hx rfl (pc0 := 22) (pc' := 52) rfl (hb hby d7_22) rfl (flt (by decide : ¬ ((1 : Int32) < (1 : Int32)))).2.1 (by decide) (by decide) k)
  show Goes p e below _ (sF T18 m 52 #[rv a1, rv r, iv (1 : Int32)] [])
  refine Goes.step ?_ (fun _ k => XS.iconst X18.here hx rfl (hb hby d7_52) k)
  show Goes p e below _ (sF T18 m 53 #[rv a1, rv r, iv (1 : Int32)] [(.int (0 : Int32))])
  refine Goes.step ?_ (fun _ k => XS.istoreN X18.here hx rfl (hb hby d7_53) rfl (l' := #[rv a1, rv r, iv (0 : Int32)]) rfl k)
  show Goes p e below _ (sF T18 m 54 #[rv a1, rv r, iv (0 : Int32)] [])
  refine Goes.step ?_ (fun _ k => XS.iloadN X18.here hx rfl (hb hby d7_54) rfl  k)
  show Goes p e below _ (sF T18 m 55 #[rv a1, rv r, iv (0 : Int32)] [(.int (0 : Int32))])
  refine Goes.step ?_ (fun _ k => XS.aloadN X18.here hx rfl (hb hby d7_55) rfl rfl k)
  show Goes p e below _ (sF T18 m 56 #[rv a1, rv r, iv (0 : Int32)] [(.ref a1), (.int (0 : Int32))])
  obtain ⟨T20, X20, e20, st20⟩ := getF X18 hx hZ hown (host := "") (Or.inl (hw _ (List.mem_of_getElem? (i := 12) rfl))) Via.refl e18 F_a1_columns_17 (g := (mkF m 56 #[rv a1, rv r, iv (0 : Int32)] [(.ref a1), (.int (0 : Int32))])) rfl rfl (hb hby d7_56)
  refine Goes.step ?_ st20
  show Goes p e below _ (sF T20 m 59 #[rv a1, rv r, iv (0 : Int32)] [(.ref gA), (.int (0 : Int32))])
  obtain ⟨cl21, Ar21, q21, S21, N_21, H21, G21⟩ := id V_16
  refine Goes.step ?_ (fun _ k => X20.arraylength hx (by rw [e20]; exact Ar21.1) (State.isArrayOf_alike hZ.alike Ar21.2.1) (g := (mkF m 59 #[rv a1, rv r, iv (0 : Int32)] [(.ref gA), (.int (0 : Int32))])) rfl rfl (hb hby d7_59) _ k)
  rw [len_of S21 N_21]
  show Goes p e below _ (sF T20 m 60 #[rv a1, rv r, iv (0 : Int32)] [(.int (1 : Int32)), (.int (0 : Int32))])
  refine Goes.step ?_ (fun _ k => XS.icmpNo X20.here hx rfl (hb hby d7_60) rfl (tlt (by decide : (0 : Int32) < (1 : Int32))).2.1 k)
  show Goes p e below _ (sF T20 m 63 #[rv a1, rv r, iv (0 : Int32)] [])
  refine Goes.step ?_ (fun _ k => XS.aloadN X20.here hx rfl (hb hby d7_63) rfl rfl k)
  show Goes p e below _ (sF T20 m 64 #[rv a1, rv r, iv (0 : Int32)] [(.ref a1)])
  obtain ⟨T22, X22, e22, st22⟩ := getF X20 hx hZ hown (host := "") (Or.inl (hw _ (List.mem_of_getElem? (i := 12) rfl))) Via.refl e20 F_a1_columns_17 (g := (mkF m 64 #[rv a1, rv r, iv (0 : Int32)] [(.ref a1)])) rfl rfl (hb hby d7_64)
  refine Goes.step ?_ st22
  show Goes p e below _ (sF T22 m 67 #[rv a1, rv r, iv (0 : Int32)] [(.ref gA)])
  refine Goes.step ?_ (fun _ k => XS.iloadN X22.here hx rfl (hb hby d7_67) rfl  k)
  show Goes p e below _ (sF T22 m 68 #[rv a1, rv r, iv (0 : Int32)] [(.int (0 : Int32)), (.ref gA)])
  obtain ⟨cl23, Ar23, q23, S23, N_23, H23, G23⟩ := id V_16
  have hin24 : ¬ ((0 : Int32) < 0 ∨ cl23.slots.size ≤ ((0 : Int32)).toNatClampNeg) := inb_of S23 ⟨by decide, by decide⟩
  have hat24 : cl23.slots[((0 : Int32)).toNatClampNeg]? = some (.ref r13) := H23.at hin24 rfl
  refine Goes.step ?_ (fun _ k => X22.aaload hx (j := (0 : Int32)) (v := (.ref r13)) (by rw [e22]; exact Ar23.1) (State.isArrayOf_alike hZ.alike Ar23.2.1) rfl Ar23.2.2 hin24 hat24 (g := (mkF m 68 #[rv a1, rv r, iv (0 : Int32)] [(.int (0 : Int32)), (.ref gA)])) rfl rfl (hb hby d7_68) _ k)
  show Goes p e below _ (sF T22 m 69 #[rv a1, rv r, iv (0 : Int32)] [(.ref r13)])
  refine Goes.step ?_ (fun _ k => XS.aloadN X22.here hx rfl (hb hby d7_69) rfl rfl k)
  show Goes p e below _ (sF T22 m 70 #[rv a1, rv r, iv (0 : Int32)] [(.ref a1), (.ref r13)])
  have F_a1_size_25 := ((F_size.ext E13).other W16 (Or.inl ne_a1_gA))
  obtain ⟨T26, X26, e26, st26⟩ := getF X22 hx hZ hown (host := "") (Or.inl (hw _ (List.mem_of_getElem? (i := 19) rfl))) Via.refl e22 F_a1_size_25 (g := (mkF m 70 #[rv a1, rv r, iv (0 : Int32)] [(.ref a1), (.ref r13)])) rfl rfl (hb hby d7_70)
  refine Goes.step ?_ st26
  show Goes p e below _ (sF T26 m 73 #[rv a1, rv r, iv (0 : Int32)] [(.int (2 : Int32)), (.ref r13)])
  refine Goes.step ?_ (fun _ k => XS.aloadN X26.here hx rfl (hb hby d7_73) rfl rfl k)
  show Goes p e below _ (sF T26 m 74 #[rv a1, rv r, iv (0 : Int32)] [(.ref r), (.int (2 : Int32)), (.ref r13)])
  refine Goes.step ?_ (fun _ k => XS.iloadN X26.here hx rfl (hb hby d7_74) rfl  k)
  show Goes p e below _ (sF T26 m 75 #[rv a1, rv r, iv (0 : Int32)] [(.int (0 : Int32)), (.ref r), (.int (2 : Int32)), (.ref r13)])
  have V_r_27 := ((V_r.ext E13).other W16 ne_r_gA)
  obtain ⟨cl28, Ar28, q28, S28, N_28, H28, G28⟩ := id V_r_27
  have hin29 : ¬ ((0 : Int32) < 0 ∨ cl28.slots.size ≤ ((0 : Int32)).toNatClampNeg) := inb_of S28 ⟨by decide, by decide⟩
  have hat29 : cl28.slots[((0 : Int32)).toNatClampNeg]? = some (.int y0) := H28.at hin29 rfl
  refine Goes.step ?_ (fun _ k => X26.iaload hx (j := (0 : Int32)) (v := (.int y0)) (by rw [e26]; exact Ar28.1) (State.isArrayOf_alike hZ.alike Ar28.2.1) Ar28.2.2 hin29 hat29 (g := (mkF m 75 #[rv a1, rv r, iv (0 : Int32)] [(.int (0 : Int32)), (.ref r), (.int (2 : Int32)), (.ref r13)])) rfl rfl (hb hby d7_75) _ k)
  show Goes p e below _ (sF T26 m 76 #[rv a1, rv r, iv (0 : Int32)] [(.int y0), (.int (2 : Int32)), (.ref r13)])
  have V_r13_30 := (Vr13.other W16 (Ne.symm ne_gA_r13))
  obtain ⟨cl31, Ar31, q31, S31, N_31, H31, G31⟩ := id V_r13_30
  have hin32 : ¬ ((2 : Int32) < 0 ∨ cl31.slots.size ≤ ((2 : Int32)).toNatClampNeg) := inb_of S31 ⟨by decide, by decide⟩
  obtain ⟨T32, h32, X32, e32, W32, st32⟩ := stI X26 hx hZ e26 Ar31 (j := (2 : Int32)) hin32 (g := (mkF m 76 #[rv a1, rv r, iv (0 : Int32)] [(.int y0), (.int (2 : Int32)), (.ref r13)])) rfl rfl (hb hby d7_76)
  have V_32 : Arv Z h32 r13 kr13 .int (4 : Int32) [(.int d0_0), (.int d0_1), (.int y0), (.int (0 : Int32))] (.int (0 : Int32)) := Arv.set Ar31 q31 S31 N_31 H31 G31 rfl W32 2 rfl (Nat.le_of_ble_eq_true rfl)
  have Zs32 : n0 ≤ h32.size := Nat.le_trans Zs16 (Keep.of_wr W32).1
  have N32 := Fr.snoc X32 N16 g_r13
  refine Goes.step ?_ st32
  show Goes p e below _ (sF T32 m 77 #[rv a1, rv r, iv (0 : Int32)] [])
  refine Goes.step ?_ (fun _ k => XS.iinc X32.here hx rfl (hb hby d7_77) rfl (l' := #[rv a1, rv r, iv ((0 : Int32) + (1 : Int32))]) rfl k)
  show Goes p e below _ (sF T32 m 80 #[rv a1, rv r, iv ((0 : Int32) + (1 : Int32))] [])
  rw [show ((0 : Int32) + (1 : Int32)) = (1 : Int32) from by decide]
  show Goes p e below _ (sF T32 m 80 #[rv a1, rv r, iv (1 : Int32)] [])
  refine Goes.step ?_ (fun _ k => XS.goto X32.here hx rfl (pc0 := 80) (pc' := 54) rfl (hb hby d7_80) (by decide) (by decide) k)
  show Goes p e below _ (sF T32 m 54 #[rv a1, rv r, iv (1 : Int32)] [])
  refine Goes.step ?_ (fun _ k => XS.iloadN X32.here hx rfl (hb hby d7_54) rfl  k)
  show Goes p e below _ (sF T32 m 55 #[rv a1, rv r, iv (1 : Int32)] [(.int (1 : Int32))])
  refine Goes.step ?_ (fun _ k => XS.aloadN X32.here hx rfl (hb hby d7_55) rfl rfl k)
  show Goes p e below _ (sF T32 m 56 #[rv a1, rv r, iv (1 : Int32)] [(.ref a1), (.int (1 : Int32))])
  have F_a1_columns_33 := (F_a1_columns_17.other W32 (Or.inl ne_a1_r13))
  obtain ⟨T34, X34, e34, st34⟩ := getF X32 hx hZ hown (host := "") (Or.inl (hw _ (List.mem_of_getElem? (i := 12) rfl))) Via.refl e32 F_a1_columns_33 (g := (mkF m 56 #[rv a1, rv r, iv (1 : Int32)] [(.ref a1), (.int (1 : Int32))])) rfl rfl (hb hby d7_56)
  refine Goes.step ?_ st34
  show Goes p e below _ (sF T34 m 59 #[rv a1, rv r, iv (1 : Int32)] [(.ref gA), (.int (1 : Int32))])
  have V_gA_35 := (V_16.other W32 ne_gA_r13)
  obtain ⟨cl36, Ar36, q36, S36, N_36, H36, G36⟩ := id V_gA_35
  refine Goes.step ?_ (fun _ k => X34.arraylength hx (by rw [e34]; exact Ar36.1) (State.isArrayOf_alike hZ.alike Ar36.2.1) (g := (mkF m 59 #[rv a1, rv r, iv (1 : Int32)] [(.ref gA), (.int (1 : Int32))])) rfl rfl (hb hby d7_59) _ k)
  rw [len_of S36 N_36]
  show Goes p e below _ (sF T34 m 60 #[rv a1, rv r, iv (1 : Int32)] [(.int (1 : Int32)), (.int (1 : Int32))])
  refine Goes.step ?_ (fun _ k => XS.icmpYes X34.here hx rfl (pc0 := 60) (pc' := 83) rfl (hb hby d7_60) rfl (flt (by decide : ¬ ((1 : Int32) < (1 : Int32)))).2.1 (by decide) (by decide) k)
  show Goes p e below _ (sF T34 m 83 #[rv a1, rv r, iv (1 : Int32)] [])
  refine Goes.step ?_ (fun _ k => XS.aloadN X34.here hx rfl (hb hby d7_83) rfl rfl k)
  show Goes p e below _ (sF T34 m 84 #[rv a1, rv r, iv (1 : Int32)] [(.ref a1)])
  refine Goes.step ?_ (fun _ k => XS.dup X34.here hx rfl (hb hby d7_84) rfl rfl k)
  show Goes p e below _ (sF T34 m 85 #[rv a1, rv r, iv (1 : Int32)] [(.ref a1), (.ref a1)])
  have F_a1_size_37 := (F_a1_size_25.other W32 (Or.inl ne_a1_r13))
  obtain ⟨T38, X38, e38, st38⟩ := getF X34 hx hZ hown (host := "") (Or.inl (hw _ (List.mem_of_getElem? (i := 19) rfl))) Via.refl e34 F_a1_size_37 (g := (mkF m 85 #[rv a1, rv r, iv (1 : Int32)] [(.ref a1), (.ref a1)])) rfl rfl (hb hby d7_85)
  refine Goes.step ?_ st38
  show Goes p e below _ (sF T38 m 88 #[rv a1, rv r, iv (1 : Int32)] [(.int (2 : Int32)), (.ref a1)])
  refine Goes.step ?_ (fun _ k => XS.iconst X38.here hx rfl (hb hby d7_88) k)
  show Goes p e below _ (sF T38 m 89 #[rv a1, rv r, iv (1 : Int32)] [(.int (1 : Int32)), (.int (2 : Int32)), (.ref a1)])
  refine Goes.step ?_ (fun _ k => XS.iadd X38.here hx rfl (hb hby d7_89) rfl k)
  show Goes p e below _ (sF T38 m 90 #[rv a1, rv r, iv (1 : Int32)] [(.int ((2 : Int32) + (1 : Int32))), (.ref a1)])
  rw [show ((2 : Int32) + (1 : Int32)) = (3 : Int32) from by decide]
  show Goes p e below _ (sF T38 m 90 #[rv a1, rv r, iv (1 : Int32)] [(.int (3 : Int32)), (.ref a1)])
  have E_a1_40 := (((E_a1.ext E13).wr W16).wr W32)
  obtain ⟨T39, h39, X39, e39, W39, st39⟩ := putF X38 hx hZ hown (host := "") (Or.inl (hw _ (List.mem_of_getElem? (i := 19) rfl))) Via.refl e38 F_a1_size_37 E_a1_40 (Or.inl (hw _ (List.mem_of_getElem? (i := 20) rfl))) (hw _ (List.mem_of_getElem? (i := 2) rfl)) (ty := .int) (by decide) rfl rfl (g := (mkF m 90 #[rv a1, rv r, iv (1 : Int32)] [(.int (3 : Int32)), (.ref a1)])) rfl rfl (hb hby d7_90)
  have Fw39 := F_a1_size_37.same W39
  have Zs39 : n0 ≤ h39.size := Nat.le_trans Zs32 (Keep.of_wr W39).1
  have N39 := Fr.snoc X39 N32 g_a1
  refine Goes.step ?_ st39
  show Goes p e below _ (sF T39 m 93 #[rv a1, rv r, iv (1 : Int32)] [])
  refine own_outV X39 hx hlk hret (hb hby d7_93) ?_ (by decide) (by decide)
  show QAdd1_2 Z a1 gA kA y0 y1 y2 d0_0 d0_1 h0 n0 _ T39.heap _
  rw [e39]
  exact ⟨r13, kr13, rfl, N39, (((((Keep.refl h0 [a1, gA]).ext E13).wr W16 (Or.inl (List.mem_of_getElem? (i := 1) rfl))).wr W32 (Or.inr sz_r13)).wr W39 (Or.inl (List.mem_of_getElem? (i := 0) rfl))), (F_a1_columns_33.other W39 (Or.inr (slot_ne (Or.inr (hw _ (List.mem_of_getElem? (i := 13) rfl))) (Or.inl (hw _ (List.mem_of_getElem? (i := 20) rfl))) (by decide) (t := (.array (.array .int))) (t' := .int) (by decide) (by decide)))), Fw39, (V_gA_35.other W39 (Ne.symm ne_a1_gA)), (V_32.other W39 (Ne.symm ne_a1_r13)), (((A13.wr W16).wr W32).wr W39), sz_r13⟩
def QAdd2_0 (Z : State) (a1 gA : Addr) (kA : ClassId) (y0 y1 y2 : Int32) (x0 : Addr) (x1 : Addr) (kx0 : ClassId) (kx1 : ClassId) (d0_0 : Int32) (d1_0 : Int32) (h0 : Heap) (n0 : Nat) (v : Option Value) (h : Heap) (L : List Loc) : Prop := v = none ∧ Fr n0 L ∧ Keep h0 h [a1, x0, x1] ∧ Fld Z h a1 "com/example/clio/clio/repository/Columns" "columns" "[[I" (.ref gA) ∧ Fld Z h a1 "com/example/clio/clio/repository/Columns" "size" "I" (.int (1 : Int32)) ∧ Arv Z h gA kA (.array .int) (2 : Int32) [(.ref x0), (.ref x1)] .null ∧ Arv Z h x0 kx0 .int (1 : Int32) [(.int y0)] (.int (0 : Int32)) ∧ Exa Z h x0 "[I" ∧ Arv Z h x1 kx1 .int (1 : Int32) [(.int y1)] (.int (0 : Int32)) ∧ Exa Z h x1 "[I"
set_option maxRecDepth 65536 in
set_option maxHeartbeats 40000000 in
theorem rmAdd2_0 (l : Launch) (Z : State) (a0 : Array Value) (hw : ∀ d ∈ tables_1, d.before a0 Z = true) (ws : List Jvm.Cond) (a1 : Addr) (r : Addr) (gA : Addr) (kA : ClassId) (kr : ClassId) (y0 : Int32) (y1 : Int32) (y2 : Int32) (x0 : Addr) (x1 : Addr) (kx0 : ClassId) (kx1 : ClassId) (d0_0 : Int32) (d1_0 : Int32) (h0 : Heap) (n0 : Nat) (Z0 : n0 ≤ h0.size) (F_columns : Fld Z h0 a1 "com/example/clio/clio/repository/Columns" "columns" "[[I" (.ref gA)) (F_size : Fld Z h0 a1 "com/example/clio/clio/repository/Columns" "size" "I" (.int (0 : Int32))) (E_a1 : Exa Z h0 a1 "com/example/clio/clio/repository/Columns") (V_gA : Arv Z h0 gA kA (.array .int) (2 : Int32) [(.ref x0), (.ref x1)] .null) (Ov : OvrA Z kA .int "[I") (V_r : Arv Z h0 r kr .int (3 : Int32) [(.int y0), (.int y1), (.int y2)] (.int (0 : Int32))) (V_x0 : Arv Z h0 x0 kx0 .int (1 : Int32) [(.int d0_0)] (.int (0 : Int32))) (E_x0 : Exa Z h0 x0 "[I") (V_x1 : Arv Z h0 x1 kx1 .int (1 : Int32) [(.int d1_0)] (.int (0 : Int32))) (E_x1 : Exa Z h0 x1 "[I") (ne_a1_r : a1 ≠ r) (ne_a1_gA : a1 ≠ gA) (ne_a1_x0 : a1 ≠ x0) (ne_a1_x1 : a1 ≠ x1) (ne_r_gA : r ≠ gA) (ne_r_x0 : r ≠ x0) (ne_r_x1 : r ≠ x1) (ne_gA_x0 : gA ≠ x0) (ne_gA_x1 : gA ≠ x1) (ne_x0_x1 : x0 ≠ x1) (g_a1 : n0 ≤ a1) (g_gA : n0 ≤ gA) (g_x0 : n0 ≤ x0) (g_x1 : n0 ≤ x1) :
    MetFree l (⟨"com/example/clio/clio/repository/Columns", "add", "([I)V"⟩ : MethodName) (head1 (Jvm.Cond.code (⟨"com/example/clio/clio/repository/Columns", "add", "([I)V"⟩ : MethodName) prog_22_method_2_code 3 none :: ws) ({ frames := 2, cells := 0, slots := 0, locals := 34 } : Room)) (fun a U => a = #[(.ref a1), (.ref r)] ∧ Z.Warmed39 U.vm ∧ U.heap = h0) (fun _ _ _ _ _ => True) (fun _ U o U' => ∃ v L, o = .returned v ∧ QAdd2_0 Z a1 gA kA y0 y1 y2 x0 x1 kx0 kx1 d0_0 d1_0 h0 n0 v U'.heap L ∧ FrameEnd U o U' L ({ frames := 2, cells := 0, slots := 0, locals := 34 } : Room).cells ({ frames := 2, cells := 0, slots := 0, locals := 34 } : Room).slots) := by
  refine MetFree.of_bodySF (plainFor_of_name pn_com_example_clio_clio_repository_Columns) hisR ?_
  intro p e s m args below meth c s₁ Bd hml0 hP hK
  obtain ⟨rfl, hZ, hh⟩ := hP
  have hx := Bd.exec
  have hby := Bd.bytes
  have hlk : meth.locks = false := BodyLoose.notSynchronized Bd
  have hml : c.maxLocals = 3 := hml0
  have hown : s.vm.findClass "com/example/clio/clio/repository/Columns" = some m.cls := findClass_of_methodNamed Bd.named
  have hnm := (name_of_methodNamed Bd.named Bd.method).1
  have X0 : Stand p l e ({ frames := 2, cells := 0, slots := 0, locals := 34 } : Room) s m #[(.ref a1), (.ref r)] below meth c s₁ [] 0 0 := Stand.of_body Bd
  have e0 : s₁.heap = h0 := by rw [← hh, Bd.state]; rfl
  have N0 := Fr.nil n0
  have hret := Bd.returns
  show Goes p e below (fun o U' => ∃ v L, o = .returned v ∧ QAdd2_0 Z a1 gA kA y0 y1 y2 x0 x1 kx0 kx1 d0_0 d1_0 h0 n0 v U'.heap L ∧ FrameEnd s o U' L ({ frames := 2, cells := 0, slots := 0, locals := 34 } : Room).cells ({ frames := 2, cells := 0, slots := 0, locals := 34 } : Room).slots) (s₁.setTop (entryFrame m #[(.ref a1), (.ref r)] 3))
  refine Goes.step ?_ (fun _ k => castTop (ef_add m a1 r) k)
  show Goes p e below _ (sF s₁ m 0 #[rv a1, rv r, .unset] [])
  refine Goes.step ?_ (fun _ k => XS.aloadN X0.here hx rfl (hb hby d7_0) rfl rfl k)
  show Goes p e below _ (sF s₁ m 1 #[rv a1, rv r, .unset] [(.ref a1)])
  obtain ⟨T1, X1, e1, st1⟩ := getF X0 hx hZ hown (host := "") (Or.inl (hw _ (List.mem_of_getElem? (i := 19) rfl))) Via.refl e0 F_size (g := (mkF m 1 #[rv a1, rv r, .unset] [(.ref a1)])) rfl rfl (hb hby d7_1)
  refine Goes.step ?_ st1
  show Goes p e below _ (sF T1 m 4 #[rv a1, rv r, .unset] [(.int (0 : Int32))])
  refine Goes.step ?_ (fun _ k => XS.aloadN X1.here hx rfl (hb hby d7_4) rfl rfl k)
  show Goes p e below _ (sF T1 m 5 #[rv a1, rv r, .unset] [(.ref a1), (.int (0 : Int32))])
  obtain ⟨T2, X2, e2, st2⟩ := getF X1 hx hZ hown (host := "") (Or.inl (hw _ (List.mem_of_getElem? (i := 12) rfl))) Via.refl e1 F_columns (g := (mkF m 5 #[rv a1, rv r, .unset] [(.ref a1), (.int (0 : Int32))])) rfl rfl (hb hby d7_5)
  refine Goes.step ?_ st2
  show Goes p e below _ (sF T2 m 8 #[rv a1, rv r, .unset] [(.ref gA), (.int (0 : Int32))])
  refine Goes.step ?_ (fun _ k => XS.iconst X2.here hx rfl (hb hby d7_8) k)
  show Goes p e below _ (sF T2 m 9 #[rv a1, rv r, .unset] [(.int (0 : Int32)), (.ref gA), (.int (0 : Int32))])
  obtain ⟨cl3, Ar3, q3, S3, N_3, H3, G3⟩ := id V_gA
  have hin4 : ¬ ((0 : Int32) < 0 ∨ cl3.slots.size ≤ ((0 : Int32)).toNatClampNeg) := inb_of S3 ⟨by decide, by decide⟩
  have hat4 : cl3.slots[((0 : Int32)).toNatClampNeg]? = some (.ref x0) := H3.at hin4 rfl
  refine Goes.step ?_ (fun _ k => X2.aaload hx (j := (0 : Int32)) (v := (.ref x0)) (by rw [e2]; exact Ar3.1) (State.isArrayOf_alike hZ.alike Ar3.2.1) rfl Ar3.2.2 hin4 hat4 (g := (mkF m 9 #[rv a1, rv r, .unset] [(.int (0 : Int32)), (.ref gA), (.int (0 : Int32))])) rfl rfl (hb hby d7_9) _ k)
  show Goes p e below _ (sF T2 m 10 #[rv a1, rv r, .unset] [(.ref x0), (.int (0 : Int32))])
  obtain ⟨cl5, Ar5, q5, S5, N_5, H5, G5⟩ := id V_x0
  refine Goes.step ?_ (fun _ k => X2.arraylength hx (by rw [e2]; exact Ar5.1) (State.isArrayOf_alike hZ.alike Ar5.2.1) (g := (mkF m 10 #[rv a1, rv r, .unset] [(.ref x0), (.int (0 : Int32))])) rfl rfl (hb hby d7_10) _ k)
  rw [len_of S5 N_5]
  show Goes p e below _ (sF T2 m 11 #[rv a1, rv r, .unset] [(.int (1 : Int32)), (.int (0 : Int32))])
  refine Goes.step ?_ (fun _ k => XS.icmpYes X2.here hx rfl (pc0 := 11) (pc' := 52) rfl (hb hby d7_11) rfl (feq (by decide : ¬ ((0 : Int32) = (1 : Int32)))).2 (by decide) (by decide) k)
  show Goes p e below _ (sF T2 m 52 #[rv a1, rv r, .unset] [])
  refine Goes.step ?_ (fun _ k => XS.iconst X2.here hx rfl (hb hby d7_52) k)
  show Goes p e below _ (sF T2 m 53 #[rv a1, rv r, .unset] [(.int (0 : Int32))])
  refine Goes.step ?_ (fun _ k => XS.istoreN X2.here hx rfl (hb hby d7_53) rfl (l' := #[rv a1, rv r, iv (0 : Int32)]) rfl k)
  show Goes p e below _ (sF T2 m 54 #[rv a1, rv r, iv (0 : Int32)] [])
  refine Goes.step ?_ (fun _ k => XS.iloadN X2.here hx rfl (hb hby d7_54) rfl  k)
  show Goes p e below _ (sF T2 m 55 #[rv a1, rv r, iv (0 : Int32)] [(.int (0 : Int32))])
  refine Goes.step ?_ (fun _ k => XS.aloadN X2.here hx rfl (hb hby d7_55) rfl rfl k)
  show Goes p e below _ (sF T2 m 56 #[rv a1, rv r, iv (0 : Int32)] [(.ref a1), (.int (0 : Int32))])
  obtain ⟨T6, X6, e6, st6⟩ := getF X2 hx hZ hown (host := "") (Or.inl (hw _ (List.mem_of_getElem? (i := 12) rfl))) Via.refl e2 F_columns (g := (mkF m 56 #[rv a1, rv r, iv (0 : Int32)] [(.ref a1), (.int (0 : Int32))])) rfl rfl (hb hby d7_56)
  refine Goes.step ?_ st6
  show Goes p e below _ (sF T6 m 59 #[rv a1, rv r, iv (0 : Int32)] [(.ref gA), (.int (0 : Int32))])
  obtain ⟨cl7, Ar7, q7, S7, N_7, H7, G7⟩ := id V_gA
  refine Goes.step ?_ (fun _ k => X6.arraylength hx (by rw [e6]; exact Ar7.1) (State.isArrayOf_alike hZ.alike Ar7.2.1) (g := (mkF m 59 #[rv a1, rv r, iv (0 : Int32)] [(.ref gA), (.int (0 : Int32))])) rfl rfl (hb hby d7_59) _ k)
  rw [len_of S7 N_7]
  show Goes p e below _ (sF T6 m 60 #[rv a1, rv r, iv (0 : Int32)] [(.int (2 : Int32)), (.int (0 : Int32))])
  refine Goes.step ?_ (fun _ k => XS.icmpNo X6.here hx rfl (hb hby d7_60) rfl (tlt (by decide : (0 : Int32) < (2 : Int32))).2.1 k)
  show Goes p e below _ (sF T6 m 63 #[rv a1, rv r, iv (0 : Int32)] [])
  refine Goes.step ?_ (fun _ k => XS.aloadN X6.here hx rfl (hb hby d7_63) rfl rfl k)
  show Goes p e below _ (sF T6 m 64 #[rv a1, rv r, iv (0 : Int32)] [(.ref a1)])
  obtain ⟨T8, X8, e8, st8⟩ := getF X6 hx hZ hown (host := "") (Or.inl (hw _ (List.mem_of_getElem? (i := 12) rfl))) Via.refl e6 F_columns (g := (mkF m 64 #[rv a1, rv r, iv (0 : Int32)] [(.ref a1)])) rfl rfl (hb hby d7_64)
  refine Goes.step ?_ st8
  show Goes p e below _ (sF T8 m 67 #[rv a1, rv r, iv (0 : Int32)] [(.ref gA)])
  refine Goes.step ?_ (fun _ k => XS.iloadN X8.here hx rfl (hb hby d7_67) rfl  k)
  show Goes p e below _ (sF T8 m 68 #[rv a1, rv r, iv (0 : Int32)] [(.int (0 : Int32)), (.ref gA)])
  obtain ⟨cl9, Ar9, q9, S9, N_9, H9, G9⟩ := id V_gA
  have hin10 : ¬ ((0 : Int32) < 0 ∨ cl9.slots.size ≤ ((0 : Int32)).toNatClampNeg) := inb_of S9 ⟨by decide, by decide⟩
  have hat10 : cl9.slots[((0 : Int32)).toNatClampNeg]? = some (.ref x0) := H9.at hin10 rfl
  refine Goes.step ?_ (fun _ k => X8.aaload hx (j := (0 : Int32)) (v := (.ref x0)) (by rw [e8]; exact Ar9.1) (State.isArrayOf_alike hZ.alike Ar9.2.1) rfl Ar9.2.2 hin10 hat10 (g := (mkF m 68 #[rv a1, rv r, iv (0 : Int32)] [(.int (0 : Int32)), (.ref gA)])) rfl rfl (hb hby d7_68) _ k)
  show Goes p e below _ (sF T8 m 69 #[rv a1, rv r, iv (0 : Int32)] [(.ref x0)])
  refine Goes.step ?_ (fun _ k => XS.aloadN X8.here hx rfl (hb hby d7_69) rfl rfl k)
  show Goes p e below _ (sF T8 m 70 #[rv a1, rv r, iv (0 : Int32)] [(.ref a1), (.ref x0)])
  obtain ⟨T11, X11, e11, st11⟩ := getF X8 hx hZ hown (host := "") (Or.inl (hw _ (List.mem_of_getElem? (i := 19) rfl))) Via.refl e8 F_size (g := (mkF m 70 #[rv a1, rv r, iv (0 : Int32)] [(.ref a1), (.ref x0)])) rfl rfl (hb hby d7_70)
  refine Goes.step ?_ st11
  show Goes p e below _ (sF T11 m 73 #[rv a1, rv r, iv (0 : Int32)] [(.int (0 : Int32)), (.ref x0)])
  refine Goes.step ?_ (fun _ k => XS.aloadN X11.here hx rfl (hb hby d7_73) rfl rfl k)
  show Goes p e below _ (sF T11 m 74 #[rv a1, rv r, iv (0 : Int32)] [(.ref r), (.int (0 : Int32)), (.ref x0)])
  refine Goes.step ?_ (fun _ k => XS.iloadN X11.here hx rfl (hb hby d7_74) rfl  k)
  show Goes p e below _ (sF T11 m 75 #[rv a1, rv r, iv (0 : Int32)] [(.int (0 : Int32)), (.ref r), (.int (0 : Int32)), (.ref x0)])
  obtain ⟨cl12, Ar12, q12, S12, N_12, H12, G12⟩ := id V_r
  have hin13 : ¬ ((0 : Int32) < 0 ∨ cl12.slots.size ≤ ((0 : Int32)).toNatClampNeg) := inb_of S12 ⟨by decide, by decide⟩
  have hat13 : cl12.slots[((0 : Int32)).toNatClampNeg]? = some (.int y0) := H12.at hin13 rfl
  refine Goes.step ?_ (fun _ k => X11.iaload hx (j := (0 : Int32)) (v := (.int y0)) (by rw [e11]; exact Ar12.1) (State.isArrayOf_alike hZ.alike Ar12.2.1) Ar12.2.2 hin13 hat13 (g := (mkF m 75 #[rv a1, rv r, iv (0 : Int32)] [(.int (0 : Int32)), (.ref r), (.int (0 : Int32)), (.ref x0)])) rfl rfl (hb hby d7_75) _ k)
  show Goes p e below _ (sF T11 m 76 #[rv a1, rv r, iv (0 : Int32)] [(.int y0), (.int (0 : Int32)), (.ref x0)])
  obtain ⟨cl14, Ar14, q14, S14, N_14, H14, G14⟩ := id V_x0
  have hin15 : ¬ ((0 : Int32) < 0 ∨ cl14.slots.size ≤ ((0 : Int32)).toNatClampNeg) := inb_of S14 ⟨by decide, by decide⟩
  obtain ⟨T15, h15, X15, e15, W15, st15⟩ := stI X11 hx hZ e11 Ar14 (j := (0 : Int32)) hin15 (g := (mkF m 76 #[rv a1, rv r, iv (0 : Int32)] [(.int y0), (.int (0 : Int32)), (.ref x0)])) rfl rfl (hb hby d7_76)
  have V_15 : Arv Z h15 x0 kx0 .int (1 : Int32) [(.int y0)] (.int (0 : Int32)) := Arv.set Ar14 q14 S14 N_14 H14 G14 rfl W15 0 rfl (Nat.le_of_ble_eq_true rfl)
  have Zs15 : n0 ≤ h15.size := Nat.le_trans Z0 (Keep.of_wr W15).1
  have N15 := Fr.snoc X15 N0 g_x0
  refine Goes.step ?_ st15
  show Goes p e below _ (sF T15 m 77 #[rv a1, rv r, iv (0 : Int32)] [])
  refine Goes.step ?_ (fun _ k => XS.iinc X15.here hx rfl (hb hby d7_77) rfl (l' := #[rv a1, rv r, iv ((0 : Int32) + (1 : Int32))]) rfl k)
  show Goes p e below _ (sF T15 m 80 #[rv a1, rv r, iv ((0 : Int32) + (1 : Int32))] [])
  rw [show ((0 : Int32) + (1 : Int32)) = (1 : Int32) from by decide]
  show Goes p e below _ (sF T15 m 80 #[rv a1, rv r, iv (1 : Int32)] [])
  refine Goes.step ?_ (fun _ k => XS.goto X15.here hx rfl (pc0 := 80) (pc' := 54) rfl (hb hby d7_80) (by decide) (by decide) k)
  show Goes p e below _ (sF T15 m 54 #[rv a1, rv r, iv (1 : Int32)] [])
  refine Goes.step ?_ (fun _ k => XS.iloadN X15.here hx rfl (hb hby d7_54) rfl  k)
  show Goes p e below _ (sF T15 m 55 #[rv a1, rv r, iv (1 : Int32)] [(.int (1 : Int32))])
  refine Goes.step ?_ (fun _ k => XS.aloadN X15.here hx rfl (hb hby d7_55) rfl rfl k)
  show Goes p e below _ (sF T15 m 56 #[rv a1, rv r, iv (1 : Int32)] [(.ref a1), (.int (1 : Int32))])
  have F_a1_columns_16 := (F_columns.other W15 (Or.inl ne_a1_x0))
  obtain ⟨T17, X17, e17, st17⟩ := getF X15 hx hZ hown (host := "") (Or.inl (hw _ (List.mem_of_getElem? (i := 12) rfl))) Via.refl e15 F_a1_columns_16 (g := (mkF m 56 #[rv a1, rv r, iv (1 : Int32)] [(.ref a1), (.int (1 : Int32))])) rfl rfl (hb hby d7_56)
  refine Goes.step ?_ st17
  show Goes p e below _ (sF T17 m 59 #[rv a1, rv r, iv (1 : Int32)] [(.ref gA), (.int (1 : Int32))])
  have V_gA_18 := (V_gA.other W15 ne_gA_x0)
  obtain ⟨cl19, Ar19, q19, S19, N_19, H19, G19⟩ := id V_gA_18
  refine Goes.step ?_ (fun _ k => X17.arraylength hx (by rw [e17]; exact Ar19.1) (State.isArrayOf_alike hZ.alike Ar19.2.1) (g := (mkF m 59 #[rv a1, rv r, iv (1 : Int32)] [(.ref gA), (.int (1 : Int32))])) rfl rfl (hb hby d7_59) _ k)
  rw [len_of S19 N_19]
  show Goes p e below _ (sF T17 m 60 #[rv a1, rv r, iv (1 : Int32)] [(.int (2 : Int32)), (.int (1 : Int32))])
  refine Goes.step ?_ (fun _ k => XS.icmpNo X17.here hx rfl (hb hby d7_60) rfl (tlt (by decide : (1 : Int32) < (2 : Int32))).2.1 k)
  show Goes p e below _ (sF T17 m 63 #[rv a1, rv r, iv (1 : Int32)] [])
  refine Goes.step ?_ (fun _ k => XS.aloadN X17.here hx rfl (hb hby d7_63) rfl rfl k)
  show Goes p e below _ (sF T17 m 64 #[rv a1, rv r, iv (1 : Int32)] [(.ref a1)])
  obtain ⟨T20, X20, e20, st20⟩ := getF X17 hx hZ hown (host := "") (Or.inl (hw _ (List.mem_of_getElem? (i := 12) rfl))) Via.refl e17 F_a1_columns_16 (g := (mkF m 64 #[rv a1, rv r, iv (1 : Int32)] [(.ref a1)])) rfl rfl (hb hby d7_64)
  refine Goes.step ?_ st20
  show Goes p e below _ (sF T20 m 67 #[rv a1, rv r, iv (1 : Int32)] [(.ref gA)])
  refine Goes.step ?_ (fun _ k => XS.iloadN X20.here hx rfl (hb hby d7_67) rfl  k)
  show Goes p e below _ (sF T20 m 68 #[rv a1, rv r, iv (1 : Int32)] [(.int (1 : Int32)), (.ref gA)])
  obtain ⟨cl21, Ar21, q21, S21, N_21, H21, G21⟩ := id V_gA_18
  have hin22 : ¬ ((1 : Int32) < 0 ∨ cl21.slots.size ≤ ((1 : Int32)).toNatClampNeg) := inb_of S21 ⟨by decide, by decide⟩
  have hat22 : cl21.slots[((1 : Int32)).toNatClampNeg]? = some (.ref x1) := H21.at hin22 rfl
  refine Goes.step ?_ (fun _ k => X20.aaload hx (j := (1 : Int32)) (v := (.ref x1)) (by rw [e20]; exact Ar21.1) (State.isArrayOf_alike hZ.alike Ar21.2.1) rfl Ar21.2.2 hin22 hat22 (g := (mkF m 68 #[rv a1, rv r, iv (1 : Int32)] [(.int (1 : Int32)), (.ref gA)])) rfl rfl (hb hby d7_68) _ k)
  show Goes p e below _ (sF T20 m 69 #[rv a1, rv r, iv (1 : Int32)] [(.ref x1)])
  refine Goes.step ?_ (fun _ k => XS.aloadN X20.here hx rfl (hb hby d7_69) rfl rfl k)
  show Goes p e below _ (sF T20 m 70 #[rv a1, rv r, iv (1 : Int32)] [(.ref a1), (.ref x1)])
  have F_a1_size_23 := (F_size.other W15 (Or.inl ne_a1_x0))
  obtain ⟨T24, X24, e24, st24⟩ := getF X20 hx hZ hown (host := "") (Or.inl (hw _ (List.mem_of_getElem? (i := 19) rfl))) Via.refl e20 F_a1_size_23 (g := (mkF m 70 #[rv a1, rv r, iv (1 : Int32)] [(.ref a1), (.ref x1)])) rfl rfl (hb hby d7_70)
  refine Goes.step ?_ st24
  show Goes p e below _ (sF T24 m 73 #[rv a1, rv r, iv (1 : Int32)] [(.int (0 : Int32)), (.ref x1)])
  refine Goes.step ?_ (fun _ k => XS.aloadN X24.here hx rfl (hb hby d7_73) rfl rfl k)
  show Goes p e below _ (sF T24 m 74 #[rv a1, rv r, iv (1 : Int32)] [(.ref r), (.int (0 : Int32)), (.ref x1)])
  refine Goes.step ?_ (fun _ k => XS.iloadN X24.here hx rfl (hb hby d7_74) rfl  k)
  show Goes p e below _ (sF T24 m 75 #[rv a1, rv r, iv (1 : Int32)] [(.int (1 : Int32)), (.ref r), (.int (0 : Int32)), (.ref x1)])
  have V_r_25 := (V_r.other W15 ne_r_x0)
  obtain ⟨cl26, Ar26, q26, S26, N_26, H26, G26⟩ := id V_r_25
  have hin27 : ¬ ((1 : Int32) < 0 ∨ cl26.slots.size ≤ ((1 : Int32)).toNatClampNeg) := inb_of S26 ⟨by decide, by decide⟩
  have hat27 : cl26.slots[((1 : Int32)).toNatClampNeg]? = some (.int y1) := H26.at hin27 rfl
  refine Goes.step ?_ (fun _ k => X24.iaload hx (j := (1 : Int32)) (v := (.int y1)) (by rw [e24]; exact Ar26.1) (State.isArrayOf_alike hZ.alike Ar26.2.1) Ar26.2.2 hin27 hat27 (g := (mkF m 75 #[rv a1, rv r, iv (1 : Int32)] [(.int (1 : Int32)), (.ref r), (.int (0 : Int32)), (.ref x1)])) rfl rfl (hb hby d7_75) _ k)
  show Goes p e below _ (sF T24 m 76 #[rv a1, rv r, iv (1 : Int32)] [(.int y1), (.int (0 : Int32)), (.ref x1)])
  have V_x1_28 := (V_x1.other W15 (Ne.symm ne_x0_x1))
  obtain ⟨cl29, Ar29, q29, S29, N_29, H29, G29⟩ := id V_x1_28
  have hin30 : ¬ ((0 : Int32) < 0 ∨ cl29.slots.size ≤ ((0 : Int32)).toNatClampNeg) := inb_of S29 ⟨by decide, by decide⟩
  obtain ⟨T30, h30, X30, e30, W30, st30⟩ := stI X24 hx hZ e24 Ar29 (j := (0 : Int32)) hin30 (g := (mkF m 76 #[rv a1, rv r, iv (1 : Int32)] [(.int y1), (.int (0 : Int32)), (.ref x1)])) rfl rfl (hb hby d7_76)
  have V_30 : Arv Z h30 x1 kx1 .int (1 : Int32) [(.int y1)] (.int (0 : Int32)) := Arv.set Ar29 q29 S29 N_29 H29 G29 rfl W30 0 rfl (Nat.le_of_ble_eq_true rfl)
  have Zs30 : n0 ≤ h30.size := Nat.le_trans Zs15 (Keep.of_wr W30).1
  have N30 := Fr.snoc X30 N15 g_x1
  refine Goes.step ?_ st30
  show Goes p e below _ (sF T30 m 77 #[rv a1, rv r, iv (1 : Int32)] [])
  refine Goes.step ?_ (fun _ k => XS.iinc X30.here hx rfl (hb hby d7_77) rfl (l' := #[rv a1, rv r, iv ((1 : Int32) + (1 : Int32))]) rfl k)
  show Goes p e below _ (sF T30 m 80 #[rv a1, rv r, iv ((1 : Int32) + (1 : Int32))] [])
  rw [show ((1 : Int32) + (1 : Int32)) = (2 : Int32) from by decide]
  show Goes p e below _ (sF T30 m 80 #[rv a1, rv r, iv (2 : Int32)] [])
  refine Goes.step ?_ (fun _ k => XS.goto X30.here hx rfl (pc0 := 80) (pc' := 54) rfl (hb hby d7_80) (by decide) (by decide) k)
  show Goes p e below _ (sF T30 m 54 #[rv a1, rv r, iv (2 : Int32)] [])
  refine Goes.step ?_ (fun _ k => XS.iloadN X30.here hx rfl (hb hby d7_54) rfl  k)
  show Goes p e below _ (sF T30 m 55 #[rv a1, rv r, iv (2 : Int32)] [(.int (2 : Int32))])
  refine Goes.step ?_ (fun _ k => XS.aloadN X30.here hx rfl (hb hby d7_55) rfl rfl k)
  show Goes p e below _ (sF T30 m 56 #[rv a1, rv r, iv (2 : Int32)] [(.ref a1), (.int (2 : Int32))])
  have F_a1_columns_31 := (F_a1_columns_16.other W30 (Or.inl ne_a1_x1))
  obtain ⟨T32, X32, e32, st32⟩ := getF X30 hx hZ hown (host := "") (Or.inl (hw _ (List.mem_of_getElem? (i := 12) rfl))) Via.refl e30 F_a1_columns_31 (g := (mkF m 56 #[rv a1, rv r, iv (2 : Int32)] [(.ref a1), (.int (2 : Int32))])) rfl rfl (hb hby d7_56)
  refine Goes.step ?_ st32
  show Goes p e below _ (sF T32 m 59 #[rv a1, rv r, iv (2 : Int32)] [(.ref gA), (.int (2 : Int32))])
  have V_gA_33 := (V_gA_18.other W30 ne_gA_x1)
  obtain ⟨cl34, Ar34, q34, S34, N_34, H34, G34⟩ := id V_gA_33
  refine Goes.step ?_ (fun _ k => X32.arraylength hx (by rw [e32]; exact Ar34.1) (State.isArrayOf_alike hZ.alike Ar34.2.1) (g := (mkF m 59 #[rv a1, rv r, iv (2 : Int32)] [(.ref gA), (.int (2 : Int32))])) rfl rfl (hb hby d7_59) _ k)
  rw [len_of S34 N_34]
  show Goes p e below _ (sF T32 m 60 #[rv a1, rv r, iv (2 : Int32)] [(.int (2 : Int32)), (.int (2 : Int32))])
  refine Goes.step ?_ (fun _ k => XS.icmpYes X32.here hx rfl (pc0 := 60) (pc' := 83) rfl (hb hby d7_60) rfl (flt (by decide : ¬ ((2 : Int32) < (2 : Int32)))).2.1 (by decide) (by decide) k)
  show Goes p e below _ (sF T32 m 83 #[rv a1, rv r, iv (2 : Int32)] [])
  refine Goes.step ?_ (fun _ k => XS.aloadN X32.here hx rfl (hb hby d7_83) rfl rfl k)
  show Goes p e below _ (sF T32 m 84 #[rv a1, rv r, iv (2 : Int32)] [(.ref a1)])
  refine Goes.step ?_ (fun _ k => XS.dup X32.here hx rfl (hb hby d7_84) rfl rfl k)
  show Goes p e below _ (sF T32 m 85 #[rv a1, rv r, iv (2 : Int32)] [(.ref a1), (.ref a1)])
  have F_a1_size_35 := (F_a1_size_23.other W30 (Or.inl ne_a1_x1))
  obtain ⟨T36, X36, e36, st36⟩ := getF X32 hx hZ hown (host := "") (Or.inl (hw _ (List.mem_of_getElem? (i := 19) rfl))) Via.refl e32 F_a1_size_35 (g := (mkF m 85 #[rv a1, rv r, iv (2 : Int32)] [(.ref a1), (.ref a1)])) rfl rfl (hb hby d7_85)
  refine Goes.step ?_ st36
  show Goes p e below _ (sF T36 m 88 #[rv a1, rv r, iv (2 : Int32)] [(.int (0 : Int32)), (.ref a1)])
  refine Goes.step ?_ (fun _ k => XS.iconst X36.here hx rfl (hb hby d7_88) k)
  show Goes p e below _ (sF T36 m 89 #[rv a1, rv r, iv (2 : Int32)] [(.int (1 : Int32)), (.int (0 : Int32)), (.ref a1)])
  refine Goes.step ?_ (fun _ k => XS.iadd X36.here hx rfl (hb hby d7_89) rfl k)
  show Goes p e below _ (sF T36 m 90 #[rv a1, rv r, iv (2 : Int32)] [(.int ((0 : Int32) + (1 : Int32))), (.ref a1)])
  rw [show ((0 : Int32) + (1 : Int32)) = (1 : Int32) from by decide]
  show Goes p e below _ (sF T36 m 90 #[rv a1, rv r, iv (2 : Int32)] [(.int (1 : Int32)), (.ref a1)])
  have E_a1_38 := ((E_a1.wr W15).wr W30)
  obtain ⟨T37, h37, X37, e37, W37, st37⟩ := putF X36 hx hZ hown (host := "") (Or.inl (hw _ (List.mem_of_getElem? (i := 19) rfl))) Via.refl e36 F_a1_size_35 E_a1_38 (Or.inl (hw _ (List.mem_of_getElem? (i := 20) rfl))) (hw _ (List.mem_of_getElem? (i := 2) rfl)) (ty := .int) (by decide) rfl rfl (g := (mkF m 90 #[rv a1, rv r, iv (2 : Int32)] [(.int (1 : Int32)), (.ref a1)])) rfl rfl (hb hby d7_90)
  have Fw37 := F_a1_size_35.same W37
  have Zs37 : n0 ≤ h37.size := Nat.le_trans Zs30 (Keep.of_wr W37).1
  have N37 := Fr.snoc X37 N30 g_a1
  refine Goes.step ?_ st37
  show Goes p e below _ (sF T37 m 93 #[rv a1, rv r, iv (2 : Int32)] [])
  refine own_outV X37 hx hlk hret (hb hby d7_93) ?_ (by decide) (by decide)
  show QAdd2_0 Z a1 gA kA y0 y1 y2 x0 x1 kx0 kx1 d0_0 d1_0 h0 n0 _ T37.heap _
  rw [e37]
  exact ⟨rfl, N37, ((((Keep.refl h0 [a1, x0, x1]).wr W15 (Or.inl (List.mem_of_getElem? (i := 1) rfl))).wr W30 (Or.inl (List.mem_of_getElem? (i := 2) rfl))).wr W37 (Or.inl (List.mem_of_getElem? (i := 0) rfl))), (F_a1_columns_31.other W37 (Or.inr (slot_ne (Or.inr (hw _ (List.mem_of_getElem? (i := 13) rfl))) (Or.inl (hw _ (List.mem_of_getElem? (i := 20) rfl))) (by decide) (t := (.array (.array .int))) (t' := .int) (by decide) (by decide)))), Fw37, (V_gA_33.other W37 (Ne.symm ne_a1_gA)), ((V_15.other W30 ne_x0_x1).other W37 (Ne.symm ne_a1_x0)), (((E_x0.wr W15).wr W30).wr W37), (V_30.other W37 (Ne.symm ne_a1_x1)), (((E_x1.wr W15).wr W30).wr W37)⟩
def QAdd2_1 (Z : State) (a1 gA : Addr) (kA : ClassId) (y0 y1 y2 : Int32) (d0_0 : Int32) (d1_0 : Int32) (h0 : Heap) (n0 : Nat) (v : Option Value) (h : Heap) (L : List Loc) : Prop := ∃ (z0 z1 : Addr) (kz0 kz1 : ClassId), v = none ∧ Fr n0 L ∧ Keep h0 h [a1, gA] ∧ Fld Z h a1 "com/example/clio/clio/repository/Columns" "columns" "[[I" (.ref gA) ∧ Fld Z h a1 "com/example/clio/clio/repository/Columns" "size" "I" (.int (2 : Int32)) ∧ Arv Z h gA kA (.array .int) (2 : Int32) [(.ref z0), (.ref z1)] .null ∧ Arv Z h z0 kz0 .int (2 : Int32) [(.int d0_0), (.int y0)] (.int (0 : Int32)) ∧ Exa Z h z0 "[I" ∧ Arv Z h z1 kz1 .int (2 : Int32) [(.int d1_0), (.int y1)] (.int (0 : Int32)) ∧ Exa Z h z1 "[I" ∧ h0.size ≤ z0 ∧ h0.size ≤ z1 ∧ z0 ≠ z1
set_option maxRecDepth 65536 in
set_option maxHeartbeats 40000000 in
theorem rmAdd2_1 (l : Launch) (Z : State) (a0 : Array Value) (hw : ∀ d ∈ tables_1, d.before a0 Z = true) (ws : List Jvm.Cond) (a1 : Addr) (r : Addr) (gA : Addr) (kA : ClassId) (kr : ClassId) (y0 : Int32) (y1 : Int32) (y2 : Int32) (x0 : Addr) (x1 : Addr) (kx0 : ClassId) (kx1 : ClassId) (d0_0 : Int32) (d1_0 : Int32) (h0 : Heap) (n0 : Nat) (Z0 : n0 ≤ h0.size) (F_columns : Fld Z h0 a1 "com/example/clio/clio/repository/Columns" "columns" "[[I" (.ref gA)) (F_size : Fld Z h0 a1 "com/example/clio/clio/repository/Columns" "size" "I" (.int (1 : Int32))) (E_a1 : Exa Z h0 a1 "com/example/clio/clio/repository/Columns") (V_gA : Arv Z h0 gA kA (.array .int) (2 : Int32) [(.ref x0), (.ref x1)] .null) (Ov : OvrA Z kA .int "[I") (V_r : Arv Z h0 r kr .int (3 : Int32) [(.int y0), (.int y1), (.int y2)] (.int (0 : Int32))) (V_x0 : Arv Z h0 x0 kx0 .int (1 : Int32) [(.int d0_0)] (.int (0 : Int32))) (E_x0 : Exa Z h0 x0 "[I") (V_x1 : Arv Z h0 x1 kx1 .int (1 : Int32) [(.int d1_0)] (.int (0 : Int32))) (E_x1 : Exa Z h0 x1 "[I") (ne_a1_r : a1 ≠ r) (ne_a1_gA : a1 ≠ gA) (ne_a1_x0 : a1 ≠ x0) (ne_a1_x1 : a1 ≠ x1) (ne_r_gA : r ≠ gA) (ne_r_x0 : r ≠ x0) (ne_r_x1 : r ≠ x1) (ne_gA_x0 : gA ≠ x0) (ne_gA_x1 : gA ≠ x1) (ne_x0_x1 : x0 ≠ x1) (g_a1 : n0 ≤ a1) (g_gA : n0 ≤ gA) (g_x0 : n0 ≤ x0) (g_x1 : n0 ≤ x1) :
    MetFree l (⟨"com/example/clio/clio/repository/Columns", "add", "([I)V"⟩ : MethodName) (head1 (Jvm.Cond.code (⟨"com/example/clio/clio/repository/Columns", "add", "([I)V"⟩ : MethodName) prog_22_method_2_code 3 none :: ws) ({ frames := 2, cells := 2, slots := 8, locals := 34 } : Room)) (fun a U => a = #[(.ref a1), (.ref r)] ∧ Z.Warmed39 U.vm ∧ U.heap = h0) (fun _ _ _ _ _ => True) (fun _ U o U' => ∃ v L, o = .returned v ∧ QAdd2_1 Z a1 gA kA y0 y1 y2 d0_0 d1_0 h0 n0 v U'.heap L ∧ FrameEnd U o U' L ({ frames := 2, cells := 2, slots := 8, locals := 34 } : Room).cells ({ frames := 2, cells := 2, slots := 8, locals := 34 } : Room).slots) := by
  refine MetFree.of_bodySF (plainFor_of_name pn_com_example_clio_clio_repository_Columns) hisR ?_
  intro p e s m args below meth c s₁ Bd hml0 hP hK
  obtain ⟨rfl, hZ, hh⟩ := hP
  have hx := Bd.exec
  have hby := Bd.bytes
  have hlk : meth.locks = false := BodyLoose.notSynchronized Bd
  have hml : c.maxLocals = 3 := hml0
  have hown : s.vm.findClass "com/example/clio/clio/repository/Columns" = some m.cls := findClass_of_methodNamed Bd.named
  have hnm := (name_of_methodNamed Bd.named Bd.method).1
  have X0 : Stand p l e ({ frames := 2, cells := 2, slots := 8, locals := 34 } : Room) s m #[(.ref a1), (.ref r)] below meth c s₁ [] 0 0 := Stand.of_body Bd
  have e0 : s₁.heap = h0 := by rw [← hh, Bd.state]; rfl
  have N0 := Fr.nil n0
  have hret := Bd.returns
  show Goes p e below (fun o U' => ∃ v L, o = .returned v ∧ QAdd2_1 Z a1 gA kA y0 y1 y2 d0_0 d1_0 h0 n0 v U'.heap L ∧ FrameEnd s o U' L ({ frames := 2, cells := 2, slots := 8, locals := 34 } : Room).cells ({ frames := 2, cells := 2, slots := 8, locals := 34 } : Room).slots) (s₁.setTop (entryFrame m #[(.ref a1), (.ref r)] 3))
  refine Goes.step ?_ (fun _ k => castTop (ef_add m a1 r) k)
  show Goes p e below _ (sF s₁ m 0 #[rv a1, rv r, .unset] [])
  refine Goes.step ?_ (fun _ k => XS.aloadN X0.here hx rfl (hb hby d7_0) rfl rfl k)
  show Goes p e below _ (sF s₁ m 1 #[rv a1, rv r, .unset] [(.ref a1)])
  obtain ⟨T1, X1, e1, st1⟩ := getF X0 hx hZ hown (host := "") (Or.inl (hw _ (List.mem_of_getElem? (i := 19) rfl))) Via.refl e0 F_size (g := (mkF m 1 #[rv a1, rv r, .unset] [(.ref a1)])) rfl rfl (hb hby d7_1)
  refine Goes.step ?_ st1
  show Goes p e below _ (sF T1 m 4 #[rv a1, rv r, .unset] [(.int (1 : Int32))])
  refine Goes.step ?_ (fun _ k => XS.aloadN X1.here hx rfl (hb hby d7_4) rfl rfl k)
  show Goes p e below _ (sF T1 m 5 #[rv a1, rv r, .unset] [(.ref a1), (.int (1 : Int32))])
  obtain ⟨T2, X2, e2, st2⟩ := getF X1 hx hZ hown (host := "") (Or.inl (hw _ (List.mem_of_getElem? (i := 12) rfl))) Via.refl e1 F_columns (g := (mkF m 5 #[rv a1, rv r, .unset] [(.ref a1), (.int (1 : Int32))])) rfl rfl (hb hby d7_5)
  refine Goes.step ?_ st2
  show Goes p e below _ (sF T2 m 8 #[rv a1, rv r, .unset] [(.ref gA), (.int (1 : Int32))])
  refine Goes.step ?_ (fun _ k => XS.iconst X2.here hx rfl (hb hby d7_8) k)
  show Goes p e below _ (sF T2 m 9 #[rv a1, rv r, .unset] [(.int (0 : Int32)), (.ref gA), (.int (1 : Int32))])
  obtain ⟨cl3, Ar3, q3, S3, N_3, H3, G3⟩ := id V_gA
  have hin4 : ¬ ((0 : Int32) < 0 ∨ cl3.slots.size ≤ ((0 : Int32)).toNatClampNeg) := inb_of S3 ⟨by decide, by decide⟩
  have hat4 : cl3.slots[((0 : Int32)).toNatClampNeg]? = some (.ref x0) := H3.at hin4 rfl
  refine Goes.step ?_ (fun _ k => X2.aaload hx (j := (0 : Int32)) (v := (.ref x0)) (by rw [e2]; exact Ar3.1) (State.isArrayOf_alike hZ.alike Ar3.2.1) rfl Ar3.2.2 hin4 hat4 (g := (mkF m 9 #[rv a1, rv r, .unset] [(.int (0 : Int32)), (.ref gA), (.int (1 : Int32))])) rfl rfl (hb hby d7_9) _ k)
  show Goes p e below _ (sF T2 m 10 #[rv a1, rv r, .unset] [(.ref x0), (.int (1 : Int32))])
  obtain ⟨cl5, Ar5, q5, S5, N_5, H5, G5⟩ := id V_x0
  refine Goes.step ?_ (fun _ k => X2.arraylength hx (by rw [e2]; exact Ar5.1) (State.isArrayOf_alike hZ.alike Ar5.2.1) (g := (mkF m 10 #[rv a1, rv r, .unset] [(.ref x0), (.int (1 : Int32))])) rfl rfl (hb hby d7_10) _ k)
  rw [len_of S5 N_5]
  show Goes p e below _ (sF T2 m 11 #[rv a1, rv r, .unset] [(.int (1 : Int32)), (.int (1 : Int32))])
  refine Goes.step ?_ (fun _ k => XS.icmpNo X2.here hx rfl (hb hby d7_11) rfl (teq (by decide : (1 : Int32) = (1 : Int32))).2 k)
  show Goes p e below _ (sF T2 m 14 #[rv a1, rv r, .unset] [])
  refine Goes.step ?_ (fun _ k => XS.iconst X2.here hx rfl (hb hby d7_14) k)
  show Goes p e below _ (sF T2 m 15 #[rv a1, rv r, .unset] [(.int (0 : Int32))])
  refine Goes.step ?_ (fun _ k => XS.istoreN X2.here hx rfl (hb hby d7_15) rfl (l' := #[rv a1, rv r, iv (0 : Int32)]) rfl k)
  show Goes p e below _ (sF T2 m 16 #[rv a1, rv r, iv (0 : Int32)] [])
  refine Goes.step ?_ (fun _ k => XS.iloadN X2.here hx rfl (hb hby d7_16) rfl  k)
  show Goes p e below _ (sF T2 m 17 #[rv a1, rv r, iv (0 : Int32)] [(.int (0 : Int32))])
  refine Goes.step ?_ (fun _ k => XS.aloadN X2.here hx rfl (hb hby d7_17) rfl rfl k)
  show Goes p e below _ (sF T2 m 18 #[rv a1, rv r, iv (0 : Int32)] [(.ref a1), (.int (0 : Int32))])
  obtain ⟨T6, X6, e6, st6⟩ := getF X2 hx hZ hown (host := "") (Or.inl (hw _ (List.mem_of_getElem? (i := 12) rfl))) Via.refl e2 F_columns (g := (mkF m 18 #[rv a1, rv r, iv (0 : Int32)] [(.ref a1), (.int (0 : Int32))])) rfl rfl (hb hby d7_18)
  refine Goes.step ?_ st6
  show Goes p e below _ (sF T6 m 21 #[rv a1, rv r, iv (0 : Int32)] [(.ref gA), (.int (0 : Int32))])
  obtain ⟨cl7, Ar7, q7, S7, N_7, H7, G7⟩ := id V_gA
  refine Goes.step ?_ (fun _ k => X6.arraylength hx (by rw [e6]; exact Ar7.1) (State.isArrayOf_alike hZ.alike Ar7.2.1) (g := (mkF m 21 #[rv a1, rv r, iv (0 : Int32)] [(.ref gA), (.int (0 : Int32))])) rfl rfl (hb hby d7_21) _ k)
  rw [len_of S7 N_7]
  show Goes p e below _ (sF T6 m 22 #[rv a1, rv r, iv (0 : Int32)] [(.int (2 : Int32)), (.int (0 : Int32))])
  refine Goes.step ?_ (fun _ k => XS.icmpNo X6.here hx rfl (hb hby d7_22) rfl (tlt (by decide : (0 : Int32) < (2 : Int32))).2.1 k)
  show Goes p e below _ (sF T6 m 25 #[rv a1, rv r, iv (0 : Int32)] [])
  refine Goes.step ?_ (fun _ k => XS.aloadN X6.here hx rfl (hb hby d7_25) rfl rfl k)
  show Goes p e below _ (sF T6 m 26 #[rv a1, rv r, iv (0 : Int32)] [(.ref a1)])
  obtain ⟨T8, X8, e8, st8⟩ := getF X6 hx hZ hown (host := "") (Or.inl (hw _ (List.mem_of_getElem? (i := 12) rfl))) Via.refl e6 F_columns (g := (mkF m 26 #[rv a1, rv r, iv (0 : Int32)] [(.ref a1)])) rfl rfl (hb hby d7_26)
  refine Goes.step ?_ st8
  show Goes p e below _ (sF T8 m 29 #[rv a1, rv r, iv (0 : Int32)] [(.ref gA)])
  refine Goes.step ?_ (fun _ k => XS.iloadN X8.here hx rfl (hb hby d7_29) rfl  k)
  show Goes p e below _ (sF T8 m 30 #[rv a1, rv r, iv (0 : Int32)] [(.int (0 : Int32)), (.ref gA)])
  refine Goes.step ?_ (fun _ k => XS.aloadN X8.here hx rfl (hb hby d7_30) rfl rfl k)
  show Goes p e below _ (sF T8 m 31 #[rv a1, rv r, iv (0 : Int32)] [(.ref a1), (.int (0 : Int32)), (.ref gA)])
  obtain ⟨T9, X9, e9, st9⟩ := getF X8 hx hZ hown (host := "") (Or.inl (hw _ (List.mem_of_getElem? (i := 12) rfl))) Via.refl e8 F_columns (g := (mkF m 31 #[rv a1, rv r, iv (0 : Int32)] [(.ref a1), (.int (0 : Int32)), (.ref gA)])) rfl rfl (hb hby d7_31)
  refine Goes.step ?_ st9
  show Goes p e below _ (sF T9 m 34 #[rv a1, rv r, iv (0 : Int32)] [(.ref gA), (.int (0 : Int32)), (.ref gA)])
  refine Goes.step ?_ (fun _ k => XS.iloadN X9.here hx rfl (hb hby d7_34) rfl  k)
  show Goes p e below _ (sF T9 m 35 #[rv a1, rv r, iv (0 : Int32)] [(.int (0 : Int32)), (.ref gA), (.int (0 : Int32)), (.ref gA)])
  obtain ⟨cl10, Ar10, q10, S10, N_10, H10, G10⟩ := id V_gA
  have hin11 : ¬ ((0 : Int32) < 0 ∨ cl10.slots.size ≤ ((0 : Int32)).toNatClampNeg) := inb_of S10 ⟨by decide, by decide⟩
  have hat11 : cl10.slots[((0 : Int32)).toNatClampNeg]? = some (.ref x0) := H10.at hin11 rfl
  refine Goes.step ?_ (fun _ k => X9.aaload hx (j := (0 : Int32)) (v := (.ref x0)) (by rw [e9]; exact Ar10.1) (State.isArrayOf_alike hZ.alike Ar10.2.1) rfl Ar10.2.2 hin11 hat11 (g := (mkF m 35 #[rv a1, rv r, iv (0 : Int32)] [(.int (0 : Int32)), (.ref gA), (.int (0 : Int32)), (.ref gA)])) rfl rfl (hb hby d7_35) _ k)
  show Goes p e below _ (sF T9 m 36 #[rv a1, rv r, iv (0 : Int32)] [(.ref x0), (.int (0 : Int32)), (.ref gA)])
  refine Goes.step ?_ (fun _ k => XS.aloadN X9.here hx rfl (hb hby d7_36) rfl rfl k)
  show Goes p e below _ (sF T9 m 37 #[rv a1, rv r, iv (0 : Int32)] [(.ref a1), (.ref x0), (.int (0 : Int32)), (.ref gA)])
  obtain ⟨T12, X12, e12, st12⟩ := getF X9 hx hZ hown (host := "") (Or.inl (hw _ (List.mem_of_getElem? (i := 19) rfl))) Via.refl e9 F_size (g := (mkF m 37 #[rv a1, rv r, iv (0 : Int32)] [(.ref a1), (.ref x0), (.int (0 : Int32)), (.ref gA)])) rfl rfl (hb hby d7_37)
  refine Goes.step ?_ st12
  show Goes p e below _ (sF T12 m 40 #[rv a1, rv r, iv (0 : Int32)] [(.int (1 : Int32)), (.ref x0), (.int (0 : Int32)), (.ref gA)])
  refine Goes.step ?_ (fun _ k => XS.iconst X12.here hx rfl (hb hby d7_40) k)
  show Goes p e below _ (sF T12 m 41 #[rv a1, rv r, iv (0 : Int32)] [(.int (2 : Int32)), (.int (1 : Int32)), (.ref x0), (.int (0 : Int32)), (.ref gA)])
  refine Goes.step ?_ (fun _ k => XS.imul X12.here hx rfl (hb hby d7_41) rfl k)
  show Goes p e below _ (sF T12 m 42 #[rv a1, rv r, iv (0 : Int32)] [(.int ((1 : Int32) * (2 : Int32))), (.ref x0), (.int (0 : Int32)), (.ref gA)])
  rw [show ((1 : Int32) * (2 : Int32)) = (2 : Int32) from by decide]
  show Goes p e below _ (sF T12 m 42 #[rv a1, rv r, iv (0 : Int32)] [(.int (2 : Int32)), (.ref x0), (.int (0 : Int32)), (.ref gA)])
  obtain ⟨_, _, ⟨T13, L13, k13, n13⟩, -, X13, ⟨Lc13, hQ13, l13, y13, z13⟩, st13⟩ := Jvm.LawKit.callS X12 hx (y := (⟨"java/util/Arrays", "copyOf", "([II)[I"⟩ : MethodName)) hown (mvT hZ (hw _ (List.mem_of_getElem? (i := 21) rfl))) (mvT hZ (hw _ (List.mem_of_getElem? (i := 22) rfl))) (mvT hZ (hw _ (List.mem_of_getElem? (i := 23) rfl))) (mvT hZ (hw _ (List.mem_of_getElem? (i := 24) rfl))) (by decide) (backOf (W := 2) (rmCp1_2 l Z a0 hw [] x0 d0_0 kx0 h0 n0 Z0 V_x0) hZ (hw _ (List.mem_of_getElem? (i := 24) rfl)) (hw _ (List.mem_of_getElem? (i := 23) rfl)) (by decide) (by decide)) (g := (mkF m 42 #[rv a1, rv r, iv (0 : Int32)] [(.int (2 : Int32)), (.ref x0), (.int (0 : Int32)), (.ref gA)])) rfl (by rw [hml]; rfl) (argsL := [(.ref x0), (.int (2 : Int32))]) (rest := [(.int (0 : Int32)), (.ref gA)]) (lenOf pd__28_5bII_29_5bI rfl) rfl (by show 2 * 0 + _ ≤ _; exact Nat.le_of_eq rfl) (hb hby d7_42) (fun _ _ => ⟨rfl, e12, (by decide : 0 + 1 ≤ _), (by decide : 0 + 4 ≤ _)⟩)
  dsimp only [Pt.U, Pt.locs, Pt.cells, Pt.slots] at X13 l13 y13 z13 st13 hQ13
  subst l13 y13 z13
  obtain ⟨r13, kr13, rfl, N13q, E13, gr13, Vr13, A13⟩ := hQ13
  have N13 := Fr.app N0 N13q
  refine Goes.step ?_ st13
  have g_r13 : n0 ≤ r13 := Nat.le_trans Z0 gr13
  have sz_r13 : h0.size ≤ r13 := Nat.le_trans (Keep.refl h0 [a1, gA]).1 gr13
  have ne_a1_r13 : a1 ≠ r13 := Nat.ne_of_lt (Nat.lt_of_lt_of_le F_columns.lt gr13)
  have ne_gA_r13 : gA ≠ r13 := Nat.ne_of_lt (Nat.lt_of_lt_of_le V_gA.lt gr13)
  have ne_r_r13 : r ≠ r13 := Nat.ne_of_lt (Nat.lt_of_lt_of_le V_r.lt gr13)
  have ne_x0_r13 : x0 ≠ r13 := Nat.ne_of_lt (Nat.lt_of_lt_of_le V_x0.lt gr13)
  have ne_x1_r13 : x1 ≠ r13 := Nat.ne_of_lt (Nat.lt_of_lt_of_le V_x1.lt gr13)
  have Zs13 : n0 ≤ T13.heap.size := Nat.le_trans Z0 E13.1
  show Goes p e below _ (sF T13 m 45 #[rv a1, rv r, iv (0 : Int32)] [(.ref r13), (.int (0 : Int32)), (.ref gA)])
  have V_gA_14 := (V_gA.ext E13)
  obtain ⟨cl15, Ar15, q15, S15, N_15, H15, G15⟩ := id V_gA_14
  have hin16 : ¬ ((0 : Int32) < 0 ∨ cl15.slots.size ≤ ((0 : Int32)).toNatClampNeg) := inb_of S15 ⟨by decide, by decide⟩
  obtain ⟨T16, h16, X16, e16, W16, st16⟩ := stR X13 hx hZ rfl Ar15 (j := (0 : Int32)) hin16 rfl (Sto.ofVA Ar15 q15 Ov (Ins.self A13)) (g := (mkF m 45 #[rv a1, rv r, iv (0 : Int32)] [(.ref r13), (.int (0 : Int32)), (.ref gA)])) rfl rfl (hb hby d7_45)
  have V_16 : Arv Z h16 gA kA (.array .int) (2 : Int32) [(.ref r13), (.ref x1)] .null := Arv.set Ar15 q15 S15 N_15 H15 G15 rfl W16 0 rfl (Nat.le_of_ble_eq_true rfl)
  have Zs16 : n0 ≤ h16.size := Nat.le_trans Zs13 (Keep.of_wr W16).1
  have N16 := Fr.snoc X16 N13 g_gA
  refine Goes.step ?_ st16
  show Goes p e below _ (sF T16 m 46 #[rv a1, rv r, iv (0 : Int32)] [])
  refine Goes.step ?_ (fun _ k => XS.iinc X16.here hx rfl (hb hby d7_46) rfl (l' := #[rv a1, rv r, iv ((0 : Int32) + (1 : Int32))]) rfl k)
  show Goes p e below _ (sF T16 m 49 #[rv a1, rv r, iv ((0 : Int32) + (1 : Int32))] [])
  rw [show ((0 : Int32) + (1 : Int32)) = (1 : Int32) from by decide]
  show Goes p e below _ (sF T16 m 49 #[rv a1, rv r, iv (1 : Int32)] [])
  refine Goes.step ?_ (fun _ k => XS.goto X16.here hx rfl (pc0 := 49) (pc' := 16) rfl (hb hby d7_49) (by decide) (by decide) k)
  show Goes p e below _ (sF T16 m 16 #[rv a1, rv r, iv (1 : Int32)] [])
  refine Goes.step ?_ (fun _ k => XS.iloadN X16.here hx rfl (hb hby d7_16) rfl  k)
  show Goes p e below _ (sF T16 m 17 #[rv a1, rv r, iv (1 : Int32)] [(.int (1 : Int32))])
  refine Goes.step ?_ (fun _ k => XS.aloadN X16.here hx rfl (hb hby d7_17) rfl rfl k)
  show Goes p e below _ (sF T16 m 18 #[rv a1, rv r, iv (1 : Int32)] [(.ref a1), (.int (1 : Int32))])
  have F_a1_columns_17 := ((F_columns.ext E13).other W16 (Or.inl ne_a1_gA))
  obtain ⟨T18, X18, e18, st18⟩ := getF X16 hx hZ hown (host := "") (Or.inl (hw _ (List.mem_of_getElem? (i := 12) rfl))) Via.refl e16 F_a1_columns_17 (g := (mkF m 18 #[rv a1, rv r, iv (1 : Int32)] [(.ref a1), (.int (1 : Int32))])) rfl rfl (hb hby d7_18)
  refine Goes.step ?_ st18
  show Goes p e below _ (sF T18 m 21 #[rv a1, rv r, iv (1 : Int32)] [(.ref gA), (.int (1 : Int32))])
  obtain ⟨cl19, Ar19, q19, S19, N_19, H19, G19⟩ := id V_16
  refine Goes.step ?_ (fun _ k => X18.arraylength hx (by rw [e18]; exact Ar19.1) (State.isArrayOf_alike hZ.alike Ar19.2.1) (g := (mkF m 21 #[rv a1, rv r, iv (1 : Int32)] [(.ref gA), (.int (1 : Int32))])) rfl rfl (hb hby d7_21) _ k)
  rw [len_of S19 N_19]
  show Goes p e below _ (sF T18 m 22 #[rv a1, rv r, iv (1 : Int32)] [(.int (2 : Int32)), (.int (1 : Int32))])
  refine Goes.step ?_ (fun _ k => XS.icmpNo X18.here hx rfl (hb hby d7_22) rfl (tlt (by decide : (1 : Int32) < (2 : Int32))).2.1 k)
  show Goes p e below _ (sF T18 m 25 #[rv a1, rv r, iv (1 : Int32)] [])
  refine Goes.step ?_ (fun _ k => XS.aloadN X18.here hx rfl (hb hby d7_25) rfl rfl k)
  show Goes p e below _ (sF T18 m 26 #[rv a1, rv r, iv (1 : Int32)] [(.ref a1)])
  obtain ⟨T20, X20, e20, st20⟩ := getF X18 hx hZ hown (host := "") (Or.inl (hw _ (List.mem_of_getElem? (i := 12) rfl))) Via.refl e18 F_a1_columns_17 (g := (mkF m 26 #[rv a1, rv r, iv (1 : Int32)] [(.ref a1)])) rfl rfl (hb hby d7_26)
  refine Goes.step ?_ st20
  show Goes p e below _ (sF T20 m 29 #[rv a1, rv r, iv (1 : Int32)] [(.ref gA)])
  refine Goes.step ?_ (fun _ k => XS.iloadN X20.here hx rfl (hb hby d7_29) rfl  k)
  show Goes p e below _ (sF T20 m 30 #[rv a1, rv r, iv (1 : Int32)] [(.int (1 : Int32)), (.ref gA)])
  refine Goes.step ?_ (fun _ k => XS.aloadN X20.here hx rfl (hb hby d7_30) rfl rfl k)
  show Goes p e below _ (sF T20 m 31 #[rv a1, rv r, iv (1 : Int32)] [(.ref a1), (.int (1 : Int32)), (.ref gA)])
  obtain ⟨T21, X21, e21, st21⟩ := getF X20 hx hZ hown (host := "") (Or.inl (hw _ (List.mem_of_getElem? (i := 12) rfl))) Via.refl e20 F_a1_columns_17 (g := (mkF m 31 #[rv a1, rv r, iv (1 : Int32)] [(.ref a1), (.int (1 : Int32)), (.ref gA)])) rfl rfl (hb hby d7_31)
  refine Goes.step ?_ st21
  show Goes p e below _ (sF T21 m 34 #[rv a1, rv r, iv (1 : Int32)] [(.ref gA), (.int (1 : Int32)), (.ref gA)])
  refine Goes.step ?_ (fun _ k => XS.iloadN X21.here hx rfl (hb hby d7_34) rfl  k)
  show Goes p e below _ (sF T21 m 35 #[rv a1, rv r, iv (1 : Int32)] [(.int (1 : Int32)), (.ref gA), (.int (1 : Int32)), (.ref gA)])
  obtain ⟨cl22, Ar22, q22, S22, N_22, H22, G22⟩ := id V_16
  have hin23 : ¬ ((1 : Int32) < 0 ∨ cl22.slots.size ≤ ((1 : Int32)).toNatClampNeg) := inb_of S22 ⟨by decide, by decide⟩
  have hat23 : cl22.slots[((1 : Int32)).toNatClampNeg]? = some (.ref x1) := H22.at hin23 rfl
  refine Goes.step ?_ (fun _ k => X21.aaload hx (j := (1 : Int32)) (v := (.ref x1)) (by rw [e21]; exact Ar22.1) (State.isArrayOf_alike hZ.alike Ar22.2.1) rfl Ar22.2.2 hin23 hat23 (g := (mkF m 35 #[rv a1, rv r, iv (1 : Int32)] [(.int (1 : Int32)), (.ref gA), (.int (1 : Int32)), (.ref gA)])) rfl rfl (hb hby d7_35) _ k)
  show Goes p e below _ (sF T21 m 36 #[rv a1, rv r, iv (1 : Int32)] [(.ref x1), (.int (1 : Int32)), (.ref gA)])
  refine Goes.step ?_ (fun _ k => XS.aloadN X21.here hx rfl (hb hby d7_36) rfl rfl k)
  show Goes p e below _ (sF T21 m 37 #[rv a1, rv r, iv (1 : Int32)] [(.ref a1), (.ref x1), (.int (1 : Int32)), (.ref gA)])
  have F_a1_size_24 := ((F_size.ext E13).other W16 (Or.inl ne_a1_gA))
  obtain ⟨T25, X25, e25, st25⟩ := getF X21 hx hZ hown (host := "") (Or.inl (hw _ (List.mem_of_getElem? (i := 19) rfl))) Via.refl e21 F_a1_size_24 (g := (mkF m 37 #[rv a1, rv r, iv (1 : Int32)] [(.ref a1), (.ref x1), (.int (1 : Int32)), (.ref gA)])) rfl rfl (hb hby d7_37)
  refine Goes.step ?_ st25
  show Goes p e below _ (sF T25 m 40 #[rv a1, rv r, iv (1 : Int32)] [(.int (1 : Int32)), (.ref x1), (.int (1 : Int32)), (.ref gA)])
  refine Goes.step ?_ (fun _ k => XS.iconst X25.here hx rfl (hb hby d7_40) k)
  show Goes p e below _ (sF T25 m 41 #[rv a1, rv r, iv (1 : Int32)] [(.int (2 : Int32)), (.int (1 : Int32)), (.ref x1), (.int (1 : Int32)), (.ref gA)])
  refine Goes.step ?_ (fun _ k => XS.imul X25.here hx rfl (hb hby d7_41) rfl k)
  show Goes p e below _ (sF T25 m 42 #[rv a1, rv r, iv (1 : Int32)] [(.int ((1 : Int32) * (2 : Int32))), (.ref x1), (.int (1 : Int32)), (.ref gA)])
  rw [show ((1 : Int32) * (2 : Int32)) = (2 : Int32) from by decide]
  show Goes p e below _ (sF T25 m 42 #[rv a1, rv r, iv (1 : Int32)] [(.int (2 : Int32)), (.ref x1), (.int (1 : Int32)), (.ref gA)])
  have V_x1_26 := ((V_x1.ext E13).other W16 (Ne.symm ne_gA_x1))
  obtain ⟨_, _, ⟨T27, L27, k27, n27⟩, -, X27, ⟨Lc27, hQ27, l27, y27, z27⟩, st27⟩ := Jvm.LawKit.callS X25 hx (y := (⟨"java/util/Arrays", "copyOf", "([II)[I"⟩ : MethodName)) hown (mvT hZ (hw _ (List.mem_of_getElem? (i := 21) rfl))) (mvT hZ (hw _ (List.mem_of_getElem? (i := 22) rfl))) (mvT hZ (hw _ (List.mem_of_getElem? (i := 23) rfl))) (mvT hZ (hw _ (List.mem_of_getElem? (i := 24) rfl))) (by decide) (backOf (W := 2) (rmCp1_2 l Z a0 hw [] x1 d1_0 kx1 h16 n0 Zs16 V_x1_26) hZ (hw _ (List.mem_of_getElem? (i := 24) rfl)) (hw _ (List.mem_of_getElem? (i := 23) rfl)) (by decide) (by decide)) (g := (mkF m 42 #[rv a1, rv r, iv (1 : Int32)] [(.int (2 : Int32)), (.ref x1), (.int (1 : Int32)), (.ref gA)])) rfl (by rw [hml]; rfl) (argsL := [(.ref x1), (.int (2 : Int32))]) (rest := [(.int (1 : Int32)), (.ref gA)]) (lenOf pd__28_5bII_29_5bI rfl) rfl (by show 2 * 0 + _ ≤ _; exact Nat.le_of_eq rfl) (hb hby d7_42) (fun _ _ => ⟨rfl, e25, (by decide : 0 + 1 + 1 ≤ _), (by decide : 0 + 4 + 4 ≤ _)⟩)
  dsimp only [Pt.U, Pt.locs, Pt.cells, Pt.slots] at X27 l27 y27 z27 st27 hQ27
  subst l27 y27 z27
  obtain ⟨r27, kr27, rfl, N27q, E27, gr27, Vr27, A27⟩ := hQ27
  have N27 := Fr.app N16 N27q
  refine Goes.step ?_ st27
  have g_r27 : n0 ≤ r27 := Nat.le_trans Zs16 gr27
  have K_28 := (((Keep.refl h0 [a1, gA]).ext E13).wr W16 (Or.inl (List.mem_of_getElem? (i := 1) rfl)))
  have sz_r27 : h0.size ≤ r27 := Nat.le_trans K_28.1 gr27
  have ne_a1_r27 : a1 ≠ r27 := Nat.ne_of_lt (Nat.lt_of_lt_of_le F_a1_columns_17.lt gr27)
  have ne_gA_r27 : gA ≠ r27 := Nat.ne_of_lt (Nat.lt_of_lt_of_le V_16.lt gr27)
  have V_r_29 := ((V_r.ext E13).other W16 ne_r_gA)
  have ne_r_r27 : r ≠ r27 := Nat.ne_of_lt (Nat.lt_of_lt_of_le V_r_29.lt gr27)
  have V_x0_30 := ((V_x0.ext E13).other W16 (Ne.symm ne_gA_x0))
  have ne_x0_r27 : x0 ≠ r27 := Nat.ne_of_lt (Nat.lt_of_lt_of_le V_x0_30.lt gr27)
  have ne_x1_r27 : x1 ≠ r27 := Nat.ne_of_lt (Nat.lt_of_lt_of_le V_x1_26.lt gr27)
  have V_r13_31 := (Vr13.other W16 (Ne.symm ne_gA_r13))
  have ne_r13_r27 : r13 ≠ r27 := Nat.ne_of_lt (Nat.lt_of_lt_of_le V_r13_31.lt gr27)
  have Zs27 : n0 ≤ T27.heap.size := Nat.le_trans Zs16 E27.1
  show Goes p e below _ (sF T27 m 45 #[rv a1, rv r, iv (1 : Int32)] [(.ref r27), (.int (1 : Int32)), (.ref gA)])
  have V_gA_32 := (V_16.ext E27)
  obtain ⟨cl33, Ar33, q33, S33, N_33, H33, G33⟩ := id V_gA_32
  have hin34 : ¬ ((1 : Int32) < 0 ∨ cl33.slots.size ≤ ((1 : Int32)).toNatClampNeg) := inb_of S33 ⟨by decide, by decide⟩
  obtain ⟨T34, h34, X34, e34, W34, st34⟩ := stR X27 hx hZ rfl Ar33 (j := (1 : Int32)) hin34 rfl (Sto.ofVA Ar33 q33 Ov (Ins.self A27)) (g := (mkF m 45 #[rv a1, rv r, iv (1 : Int32)] [(.ref r27), (.int (1 : Int32)), (.ref gA)])) rfl rfl (hb hby d7_45)
  have V_34 : Arv Z h34 gA kA (.array .int) (2 : Int32) [(.ref r13), (.ref r27)] .null := Arv.set Ar33 q33 S33 N_33 H33 G33 rfl W34 1 rfl (Nat.le_of_ble_eq_true rfl)
  have Zs34 : n0 ≤ h34.size := Nat.le_trans Zs27 (Keep.of_wr W34).1
  have N34 := Fr.snoc X34 N27 g_gA
  refine Goes.step ?_ st34
  show Goes p e below _ (sF T34 m 46 #[rv a1, rv r, iv (1 : Int32)] [])
  refine Goes.step ?_ (fun _ k => XS.iinc X34.here hx rfl (hb hby d7_46) rfl (l' := #[rv a1, rv r, iv ((1 : Int32) + (1 : Int32))]) rfl k)
  show Goes p e below _ (sF T34 m 49 #[rv a1, rv r, iv ((1 : Int32) + (1 : Int32))] [])
  rw [show ((1 : Int32) + (1 : Int32)) = (2 : Int32) from by decide]
  show Goes p e below _ (sF T34 m 49 #[rv a1, rv r, iv (2 : Int32)] [])
  refine Goes.step ?_ (fun _ k => XS.goto X34.here hx rfl (pc0 := 49) (pc' := 16) rfl (hb hby d7_49) (by decide) (by decide) k)
  show Goes p e below _ (sF T34 m 16 #[rv a1, rv r, iv (2 : Int32)] [])
  refine Goes.step ?_ (fun _ k => XS.iloadN X34.here hx rfl (hb hby d7_16) rfl  k)
  show Goes p e below _ (sF T34 m 17 #[rv a1, rv r, iv (2 : Int32)] [(.int (2 : Int32))])
  refine Goes.step ?_ (fun _ k => XS.aloadN X34.here hx rfl (hb hby d7_17) rfl rfl k)
  show Goes p e below _ (sF T34 m 18 #[rv a1, rv r, iv (2 : Int32)] [(.ref a1), (.int (2 : Int32))])
  have F_a1_columns_35 := ((F_a1_columns_17.ext E27).other W34 (Or.inl ne_a1_gA))
  obtain ⟨T36, X36, e36, st36⟩ := getF X34 hx hZ hown (host := "") (Or.inl (hw _ (List.mem_of_getElem? (i := 12) rfl))) Via.refl e34 F_a1_columns_35 (g := (mkF m 18 #[rv a1, rv r, iv (2 : Int32)] [(.ref a1), (.int (2 : Int32))])) rfl rfl (hb hby d7_18)
  refine Goes.step ?_ st36
  show Goes p e below _ (sF T36 m 21 #[rv a1, rv r, iv (2 : Int32)] [(.ref gA), (.int (2 : Int32))])
  obtain ⟨cl37, Ar37, q37, S37, N_37, H37, G37⟩ := id V_34
  refine Goes.step ?_ (fun _ k => X36.arraylength hx (by rw [e36]; exact Ar37.1) (State.isArrayOf_alike hZ.alike Ar37.2.1) (g := (mkF m 21 #[rv a1, rv r, iv (2 : Int32)] [(.ref gA), (.int (2 : Int32))])) rfl rfl (hb hby d7_21) _ k)
  rw [len_of S37 N_37]
  show Goes p e below _ (sF T36 m 22 #[rv a1, rv r, iv (2 : Int32)] [(.int (2 : Int32)), (.int (2 : Int32))])
  refine Goes.step ?_ (fun _ k => XS.icmpYes X36.here hx rfl (pc0 := 22) (pc' := 52) rfl (hb hby d7_22) rfl (flt (by decide : ¬ ((2 : Int32) < (2 : Int32)))).2.1 (by decide) (by decide) k)
  show Goes p e below _ (sF T36 m 52 #[rv a1, rv r, iv (2 : Int32)] [])
  refine Goes.step ?_ (fun _ k => XS.iconst X36.here hx rfl (hb hby d7_52) k)
  show Goes p e below _ (sF T36 m 53 #[rv a1, rv r, iv (2 : Int32)] [(.int (0 : Int32))])
  refine Goes.step ?_ (fun _ k => XS.istoreN X36.here hx rfl (hb hby d7_53) rfl (l' := #[rv a1, rv r, iv (0 : Int32)]) rfl k)
  show Goes p e below _ (sF T36 m 54 #[rv a1, rv r, iv (0 : Int32)] [])
  refine Goes.step ?_ (fun _ k => XS.iloadN X36.here hx rfl (hb hby d7_54) rfl  k)
  show Goes p e below _ (sF T36 m 55 #[rv a1, rv r, iv (0 : Int32)] [(.int (0 : Int32))])
  refine Goes.step ?_ (fun _ k => XS.aloadN X36.here hx rfl (hb hby d7_55) rfl rfl k)
  show Goes p e below _ (sF T36 m 56 #[rv a1, rv r, iv (0 : Int32)] [(.ref a1), (.int (0 : Int32))])
  obtain ⟨T38, X38, e38, st38⟩ := getF X36 hx hZ hown (host := "") (Or.inl (hw _ (List.mem_of_getElem? (i := 12) rfl))) Via.refl e36 F_a1_columns_35 (g := (mkF m 56 #[rv a1, rv r, iv (0 : Int32)] [(.ref a1), (.int (0 : Int32))])) rfl rfl (hb hby d7_56)
  refine Goes.step ?_ st38
  show Goes p e below _ (sF T38 m 59 #[rv a1, rv r, iv (0 : Int32)] [(.ref gA), (.int (0 : Int32))])
  obtain ⟨cl39, Ar39, q39, S39, N_39, H39, G39⟩ := id V_34
  refine Goes.step ?_ (fun _ k => X38.arraylength hx (by rw [e38]; exact Ar39.1) (State.isArrayOf_alike hZ.alike Ar39.2.1) (g := (mkF m 59 #[rv a1, rv r, iv (0 : Int32)] [(.ref gA), (.int (0 : Int32))])) rfl rfl (hb hby d7_59) _ k)
  rw [len_of S39 N_39]
  show Goes p e below _ (sF T38 m 60 #[rv a1, rv r, iv (0 : Int32)] [(.int (2 : Int32)), (.int (0 : Int32))])
  refine Goes.step ?_ (fun _ k => XS.icmpNo X38.here hx rfl (hb hby d7_60) rfl (tlt (by decide : (0 : Int32) < (2 : Int32))).2.1 k)
  show Goes p e below _ (sF T38 m 63 #[rv a1, rv r, iv (0 : Int32)] [])
  refine Goes.step ?_ (fun _ k => XS.aloadN X38.here hx rfl (hb hby d7_63) rfl rfl k)
  show Goes p e below _ (sF T38 m 64 #[rv a1, rv r, iv (0 : Int32)] [(.ref a1)])
  obtain ⟨T40, X40, e40, st40⟩ := getF X38 hx hZ hown (host := "") (Or.inl (hw _ (List.mem_of_getElem? (i := 12) rfl))) Via.refl e38 F_a1_columns_35 (g := (mkF m 64 #[rv a1, rv r, iv (0 : Int32)] [(.ref a1)])) rfl rfl (hb hby d7_64)
  refine Goes.step ?_ st40
  show Goes p e below _ (sF T40 m 67 #[rv a1, rv r, iv (0 : Int32)] [(.ref gA)])
  refine Goes.step ?_ (fun _ k => XS.iloadN X40.here hx rfl (hb hby d7_67) rfl  k)
  show Goes p e below _ (sF T40 m 68 #[rv a1, rv r, iv (0 : Int32)] [(.int (0 : Int32)), (.ref gA)])
  obtain ⟨cl41, Ar41, q41, S41, N_41, H41, G41⟩ := id V_34
  have hin42 : ¬ ((0 : Int32) < 0 ∨ cl41.slots.size ≤ ((0 : Int32)).toNatClampNeg) := inb_of S41 ⟨by decide, by decide⟩
  have hat42 : cl41.slots[((0 : Int32)).toNatClampNeg]? = some (.ref r13) := H41.at hin42 rfl
  refine Goes.step ?_ (fun _ k => X40.aaload hx (j := (0 : Int32)) (v := (.ref r13)) (by rw [e40]; exact Ar41.1) (State.isArrayOf_alike hZ.alike Ar41.2.1) rfl Ar41.2.2 hin42 hat42 (g := (mkF m 68 #[rv a1, rv r, iv (0 : Int32)] [(.int (0 : Int32)), (.ref gA)])) rfl rfl (hb hby d7_68) _ k)
  show Goes p e below _ (sF T40 m 69 #[rv a1, rv r, iv (0 : Int32)] [(.ref r13)])
  refine Goes.step ?_ (fun _ k => XS.aloadN X40.here hx rfl (hb hby d7_69) rfl rfl k)
  show Goes p e below _ (sF T40 m 70 #[rv a1, rv r, iv (0 : Int32)] [(.ref a1), (.ref r13)])
  have F_a1_size_43 := ((F_a1_size_24.ext E27).other W34 (Or.inl ne_a1_gA))
  obtain ⟨T44, X44, e44, st44⟩ := getF X40 hx hZ hown (host := "") (Or.inl (hw _ (List.mem_of_getElem? (i := 19) rfl))) Via.refl e40 F_a1_size_43 (g := (mkF m 70 #[rv a1, rv r, iv (0 : Int32)] [(.ref a1), (.ref r13)])) rfl rfl (hb hby d7_70)
  refine Goes.step ?_ st44
  show Goes p e below _ (sF T44 m 73 #[rv a1, rv r, iv (0 : Int32)] [(.int (1 : Int32)), (.ref r13)])
  refine Goes.step ?_ (fun _ k => XS.aloadN X44.here hx rfl (hb hby d7_73) rfl rfl k)
  show Goes p e below _ (sF T44 m 74 #[rv a1, rv r, iv (0 : Int32)] [(.ref r), (.int (1 : Int32)), (.ref r13)])
  refine Goes.step ?_ (fun _ k => XS.iloadN X44.here hx rfl (hb hby d7_74) rfl  k)
  show Goes p e below _ (sF T44 m 75 #[rv a1, rv r, iv (0 : Int32)] [(.int (0 : Int32)), (.ref r), (.int (1 : Int32)), (.ref r13)])
  have V_r_45 := ((V_r_29.ext E27).other W34 ne_r_gA)
  obtain ⟨cl46, Ar46, q46, S46, N_46, H46, G46⟩ := id V_r_45
  have hin47 : ¬ ((0 : Int32) < 0 ∨ cl46.slots.size ≤ ((0 : Int32)).toNatClampNeg) := inb_of S46 ⟨by decide, by decide⟩
  have hat47 : cl46.slots[((0 : Int32)).toNatClampNeg]? = some (.int y0) := H46.at hin47 rfl
  refine Goes.step ?_ (fun _ k => X44.iaload hx (j := (0 : Int32)) (v := (.int y0)) (by rw [e44]; exact Ar46.1) (State.isArrayOf_alike hZ.alike Ar46.2.1) Ar46.2.2 hin47 hat47 (g := (mkF m 75 #[rv a1, rv r, iv (0 : Int32)] [(.int (0 : Int32)), (.ref r), (.int (1 : Int32)), (.ref r13)])) rfl rfl (hb hby d7_75) _ k)
  show Goes p e below _ (sF T44 m 76 #[rv a1, rv r, iv (0 : Int32)] [(.int y0), (.int (1 : Int32)), (.ref r13)])
  have V_r13_48 := ((V_r13_31.ext E27).other W34 (Ne.symm ne_gA_r13))
  obtain ⟨cl49, Ar49, q49, S49, N_49, H49, G49⟩ := id V_r13_48
  have hin50 : ¬ ((1 : Int32) < 0 ∨ cl49.slots.size ≤ ((1 : Int32)).toNatClampNeg) := inb_of S49 ⟨by decide, by decide⟩
  obtain ⟨T50, h50, X50, e50, W50, st50⟩ := stI X44 hx hZ e44 Ar49 (j := (1 : Int32)) hin50 (g := (mkF m 76 #[rv a1, rv r, iv (0 : Int32)] [(.int y0), (.int (1 : Int32)), (.ref r13)])) rfl rfl (hb hby d7_76)
  have V_50 : Arv Z h50 r13 kr13 .int (2 : Int32) [(.int d0_0), (.int y0)] (.int (0 : Int32)) := Arv.set Ar49 q49 S49 N_49 H49 G49 rfl W50 1 rfl (Nat.le_of_ble_eq_true rfl)
  have Zs50 : n0 ≤ h50.size := Nat.le_trans Zs34 (Keep.of_wr W50).1
  have N50 := Fr.snoc X50 N34 g_r13
  refine Goes.step ?_ st50
  show Goes p e below _ (sF T50 m 77 #[rv a1, rv r, iv (0 : Int32)] [])
  refine Goes.step ?_ (fun _ k => XS.iinc X50.here hx rfl (hb hby d7_77) rfl (l' := #[rv a1, rv r, iv ((0 : Int32) + (1 : Int32))]) rfl k)
  show Goes p e below _ (sF T50 m 80 #[rv a1, rv r, iv ((0 : Int32) + (1 : Int32))] [])
  rw [show ((0 : Int32) + (1 : Int32)) = (1 : Int32) from by decide]
  show Goes p e below _ (sF T50 m 80 #[rv a1, rv r, iv (1 : Int32)] [])
  refine Goes.step ?_ (fun _ k => XS.goto X50.here hx rfl (pc0 := 80) (pc' := 54) rfl (hb hby d7_80) (by decide) (by decide) k)
  show Goes p e below _ (sF T50 m 54 #[rv a1, rv r, iv (1 : Int32)] [])
  refine Goes.step ?_ (fun _ k => XS.iloadN X50.here hx rfl (hb hby d7_54) rfl  k)
  show Goes p e below _ (sF T50 m 55 #[rv a1, rv r, iv (1 : Int32)] [(.int (1 : Int32))])
  refine Goes.step ?_ (fun _ k => XS.aloadN X50.here hx rfl (hb hby d7_55) rfl rfl k)
  show Goes p e below _ (sF T50 m 56 #[rv a1, rv r, iv (1 : Int32)] [(.ref a1), (.int (1 : Int32))])
  have F_a1_columns_51 := (F_a1_columns_35.other W50 (Or.inl ne_a1_r13))
  obtain ⟨T52, X52, e52, st52⟩ := getF X50 hx hZ hown (host := "") (Or.inl (hw _ (List.mem_of_getElem? (i := 12) rfl))) Via.refl e50 F_a1_columns_51 (g := (mkF m 56 #[rv a1, rv r, iv (1 : Int32)] [(.ref a1), (.int (1 : Int32))])) rfl rfl (hb hby d7_56)
  refine Goes.step ?_ st52
  show Goes p e below _ (sF T52 m 59 #[rv a1, rv r, iv (1 : Int32)] [(.ref gA), (.int (1 : Int32))])
  have V_gA_53 := (V_34.other W50 ne_gA_r13)
  obtain ⟨cl54, Ar54, q54, S54, N_54, H54, G54⟩ := id V_gA_53
  refine Goes.step ?_ (fun _ k => X52.arraylength hx (by rw [e52]; exact Ar54.1) (State.isArrayOf_alike hZ.alike Ar54.2.1) (g := (mkF m 59 #[rv a1, rv r, iv (1 : Int32)] [(.ref gA), (.int (1 : Int32))])) rfl rfl (hb hby d7_59) _ k)
  rw [len_of S54 N_54]
  show Goes p e below _ (sF T52 m 60 #[rv a1, rv r, iv (1 : Int32)] [(.int (2 : Int32)), (.int (1 : Int32))])
  refine Goes.step ?_ (fun _ k => XS.icmpNo X52.here hx rfl (hb hby d7_60) rfl (tlt (by decide : (1 : Int32) < (2 : Int32))).2.1 k)
  show Goes p e below _ (sF T52 m 63 #[rv a1, rv r, iv (1 : Int32)] [])
  refine Goes.step ?_ (fun _ k => XS.aloadN X52.here hx rfl (hb hby d7_63) rfl rfl k)
  show Goes p e below _ (sF T52 m 64 #[rv a1, rv r, iv (1 : Int32)] [(.ref a1)])
  obtain ⟨T55, X55, e55, st55⟩ := getF X52 hx hZ hown (host := "") (Or.inl (hw _ (List.mem_of_getElem? (i := 12) rfl))) Via.refl e52 F_a1_columns_51 (g := (mkF m 64 #[rv a1, rv r, iv (1 : Int32)] [(.ref a1)])) rfl rfl (hb hby d7_64)
  refine Goes.step ?_ st55
  show Goes p e below _ (sF T55 m 67 #[rv a1, rv r, iv (1 : Int32)] [(.ref gA)])
  refine Goes.step ?_ (fun _ k => XS.iloadN X55.here hx rfl (hb hby d7_67) rfl  k)
  show Goes p e below _ (sF T55 m 68 #[rv a1, rv r, iv (1 : Int32)] [(.int (1 : Int32)), (.ref gA)])
  obtain ⟨cl56, Ar56, q56, S56, N_56, H56, G56⟩ := id V_gA_53
  have hin57 : ¬ ((1 : Int32) < 0 ∨ cl56.slots.size ≤ ((1 : Int32)).toNatClampNeg) := inb_of S56 ⟨by decide, by decide⟩
  have hat57 : cl56.slots[((1 : Int32)).toNatClampNeg]? = some (.ref r27) := H56.at hin57 rfl
  refine Goes.step ?_ (fun _ k => X55.aaload hx (j := (1 : Int32)) (v := (.ref r27)) (by rw [e55]; exact Ar56.1) (State.isArrayOf_alike hZ.alike Ar56.2.1) rfl Ar56.2.2 hin57 hat57 (g := (mkF m 68 #[rv a1, rv r, iv (1 : Int32)] [(.int (1 : Int32)), (.ref gA)])) rfl rfl (hb hby d7_68) _ k)
  show Goes p e below _ (sF T55 m 69 #[rv a1, rv r, iv (1 : Int32)] [(.ref r27)])
  refine Goes.step ?_ (fun _ k => XS.aloadN X55.here hx rfl (hb hby d7_69) rfl rfl k)
  show Goes p e below _ (sF T55 m 70 #[rv a1, rv r, iv (1 : Int32)] [(.ref a1), (.ref r27)])
  have F_a1_size_58 := (F_a1_size_43.other W50 (Or.inl ne_a1_r13))
  obtain ⟨T59, X59, e59, st59⟩ := getF X55 hx hZ hown (host := "") (Or.inl (hw _ (List.mem_of_getElem? (i := 19) rfl))) Via.refl e55 F_a1_size_58 (g := (mkF m 70 #[rv a1, rv r, iv (1 : Int32)] [(.ref a1), (.ref r27)])) rfl rfl (hb hby d7_70)
  refine Goes.step ?_ st59
  show Goes p e below _ (sF T59 m 73 #[rv a1, rv r, iv (1 : Int32)] [(.int (1 : Int32)), (.ref r27)])
  refine Goes.step ?_ (fun _ k => XS.aloadN X59.here hx rfl (hb hby d7_73) rfl rfl k)
  show Goes p e below _ (sF T59 m 74 #[rv a1, rv r, iv (1 : Int32)] [(.ref r), (.int (1 : Int32)), (.ref r27)])
  refine Goes.step ?_ (fun _ k => XS.iloadN X59.here hx rfl (hb hby d7_74) rfl  k)
  show Goes p e below _ (sF T59 m 75 #[rv a1, rv r, iv (1 : Int32)] [(.int (1 : Int32)), (.ref r), (.int (1 : Int32)), (.ref r27)])
  have V_r_60 := (V_r_45.other W50 ne_r_r13)
  obtain ⟨cl61, Ar61, q61, S61, N_61, H61, G61⟩ := id V_r_60
  have hin62 : ¬ ((1 : Int32) < 0 ∨ cl61.slots.size ≤ ((1 : Int32)).toNatClampNeg) := inb_of S61 ⟨by decide, by decide⟩
  have hat62 : cl61.slots[((1 : Int32)).toNatClampNeg]? = some (.int y1) := H61.at hin62 rfl
  refine Goes.step ?_ (fun _ k => X59.iaload hx (j := (1 : Int32)) (v := (.int y1)) (by rw [e59]; exact Ar61.1) (State.isArrayOf_alike hZ.alike Ar61.2.1) Ar61.2.2 hin62 hat62 (g := (mkF m 75 #[rv a1, rv r, iv (1 : Int32)] [(.int (1 : Int32)), (.ref r), (.int (1 : Int32)), (.ref r27)])) rfl rfl (hb hby d7_75) _ k)
  show Goes p e below _ (sF T59 m 76 #[rv a1, rv r, iv (1 : Int32)] [(.int y1), (.int (1 : Int32)), (.ref r27)])
  have V_r27_63 := ((Vr27.other W34 (Ne.symm ne_gA_r27)).other W50 (Ne.symm ne_r13_r27))
  obtain ⟨cl64, Ar64, q64, S64, N_64, H64, G64⟩ := id V_r27_63
  have hin65 : ¬ ((1 : Int32) < 0 ∨ cl64.slots.size ≤ ((1 : Int32)).toNatClampNeg) := inb_of S64 ⟨by decide, by decide⟩
  obtain ⟨T65, h65, X65, e65, W65, st65⟩ := stI X59 hx hZ e59 Ar64 (j := (1 : Int32)) hin65 (g := (mkF m 76 #[rv a1, rv r, iv (1 : Int32)] [(.int y1), (.int (1 : Int32)), (.ref r27)])) rfl rfl (hb hby d7_76)
  have V_65 : Arv Z h65 r27 kr27 .int (2 : Int32) [(.int d1_0), (.int y1)] (.int (0 : Int32)) := Arv.set Ar64 q64 S64 N_64 H64 G64 rfl W65 1 rfl (Nat.le_of_ble_eq_true rfl)
  have Zs65 : n0 ≤ h65.size := Nat.le_trans Zs50 (Keep.of_wr W65).1
  have N65 := Fr.snoc X65 N50 g_r27
  refine Goes.step ?_ st65
  show Goes p e below _ (sF T65 m 77 #[rv a1, rv r, iv (1 : Int32)] [])
  refine Goes.step ?_ (fun _ k => XS.iinc X65.here hx rfl (hb hby d7_77) rfl (l' := #[rv a1, rv r, iv ((1 : Int32) + (1 : Int32))]) rfl k)
  show Goes p e below _ (sF T65 m 80 #[rv a1, rv r, iv ((1 : Int32) + (1 : Int32))] [])
  rw [show ((1 : Int32) + (1 : Int32)) = (2 : Int32) from by decide]
  show Goes p e below _ (sF T65 m 80 #[rv a1, rv r, iv (2 : Int32)] [])
  refine Goes.step ?_ (fun _ k => XS.goto X65.here hx rfl (pc0 := 80) (pc' := 54) rfl (hb hby d7_80) (by decide) (by decide) k)
  show Goes p e below _ (sF T65 m 54 #[rv a1, rv r, iv (2 : Int32)] [])
  refine Goes.step ?_ (fun _ k => XS.iloadN X65.here hx rfl (hb hby d7_54) rfl  k)
  show Goes p e below _ (sF T65 m 55 #[rv a1, rv r, iv (2 : Int32)] [(.int (2 : Int32))])
  refine Goes.step ?_ (fun _ k => XS.aloadN X65.here hx rfl (hb hby d7_55) rfl rfl k)
  show Goes p e below _ (sF T65 m 56 #[rv a1, rv r, iv (2 : Int32)] [(.ref a1), (.int (2 : Int32))])
  have F_a1_columns_66 := (F_a1_columns_51.other W65 (Or.inl ne_a1_r27))
  obtain ⟨T67, X67, e67, st67⟩ := getF X65 hx hZ hown (host := "") (Or.inl (hw _ (List.mem_of_getElem? (i := 12) rfl))) Via.refl e65 F_a1_columns_66 (g := (mkF m 56 #[rv a1, rv r, iv (2 : Int32)] [(.ref a1), (.int (2 : Int32))])) rfl rfl (hb hby d7_56)
  refine Goes.step ?_ st67
  show Goes p e below _ (sF T67 m 59 #[rv a1, rv r, iv (2 : Int32)] [(.ref gA), (.int (2 : Int32))])
  have V_gA_68 := (V_gA_53.other W65 ne_gA_r27)
  obtain ⟨cl69, Ar69, q69, S69, N_69, H69, G69⟩ := id V_gA_68
  refine Goes.step ?_ (fun _ k => X67.arraylength hx (by rw [e67]; exact Ar69.1) (State.isArrayOf_alike hZ.alike Ar69.2.1) (g := (mkF m 59 #[rv a1, rv r, iv (2 : Int32)] [(.ref gA), (.int (2 : Int32))])) rfl rfl (hb hby d7_59) _ k)
  rw [len_of S69 N_69]
  show Goes p e below _ (sF T67 m 60 #[rv a1, rv r, iv (2 : Int32)] [(.int (2 : Int32)), (.int (2 : Int32))])
  refine Goes.step ?_ (fun _ k => XS.icmpYes X67.here hx rfl (pc0 := 60) (pc' := 83) rfl (hb hby d7_60) rfl (flt (by decide : ¬ ((2 : Int32) < (2 : Int32)))).2.1 (by decide) (by decide) k)
  show Goes p e below _ (sF T67 m 83 #[rv a1, rv r, iv (2 : Int32)] [])
  refine Goes.step ?_ (fun _ k => XS.aloadN X67.here hx rfl (hb hby d7_83) rfl rfl k)
  show Goes p e below _ (sF T67 m 84 #[rv a1, rv r, iv (2 : Int32)] [(.ref a1)])
  refine Goes.step ?_ (fun _ k => XS.dup X67.here hx rfl (hb hby d7_84) rfl rfl k)
  show Goes p e below _ (sF T67 m 85 #[rv a1, rv r, iv (2 : Int32)] [(.ref a1), (.ref a1)])
  have F_a1_size_70 := (F_a1_size_58.other W65 (Or.inl ne_a1_r27))
  obtain ⟨T71, X71, e71, st71⟩ := getF X67 hx hZ hown (host := "") (Or.inl (hw _ (List.mem_of_getElem? (i := 19) rfl))) Via.refl e67 F_a1_size_70 (g := (mkF m 85 #[rv a1, rv r, iv (2 : Int32)] [(.ref a1), (.ref a1)])) rfl rfl (hb hby d7_85)
  refine Goes.step ?_ st71
  show Goes p e below _ (sF T71 m 88 #[rv a1, rv r, iv (2 : Int32)] [(.int (1 : Int32)), (.ref a1)])
  refine Goes.step ?_ (fun _ k => XS.iconst X71.here hx rfl (hb hby d7_88) k)
  show Goes p e below _ (sF T71 m 89 #[rv a1, rv r, iv (2 : Int32)] [(.int (1 : Int32)), (.int (1 : Int32)), (.ref a1)])
  refine Goes.step ?_ (fun _ k => XS.iadd X71.here hx rfl (hb hby d7_89) rfl k)
  show Goes p e below _ (sF T71 m 90 #[rv a1, rv r, iv (2 : Int32)] [(.int ((1 : Int32) + (1 : Int32))), (.ref a1)])
  rw [show ((1 : Int32) + (1 : Int32)) = (2 : Int32) from by decide]
  show Goes p e below _ (sF T71 m 90 #[rv a1, rv r, iv (2 : Int32)] [(.int (2 : Int32)), (.ref a1)])
  have E_a1_73 := ((((((E_a1.ext E13).wr W16).ext E27).wr W34).wr W50).wr W65)
  obtain ⟨T72, h72, X72, e72, W72, st72⟩ := putF X71 hx hZ hown (host := "") (Or.inl (hw _ (List.mem_of_getElem? (i := 19) rfl))) Via.refl e71 F_a1_size_70 E_a1_73 (Or.inl (hw _ (List.mem_of_getElem? (i := 20) rfl))) (hw _ (List.mem_of_getElem? (i := 2) rfl)) (ty := .int) (by decide) rfl rfl (g := (mkF m 90 #[rv a1, rv r, iv (2 : Int32)] [(.int (2 : Int32)), (.ref a1)])) rfl rfl (hb hby d7_90)
  have Fw72 := F_a1_size_70.same W72
  have Zs72 : n0 ≤ h72.size := Nat.le_trans Zs65 (Keep.of_wr W72).1
  have N72 := Fr.snoc X72 N65 g_a1
  refine Goes.step ?_ st72
  show Goes p e below _ (sF T72 m 93 #[rv a1, rv r, iv (2 : Int32)] [])
  refine own_outV X72 hx hlk hret (hb hby d7_93) ?_ (by decide) (by decide)
  show QAdd2_1 Z a1 gA kA y0 y1 y2 d0_0 d1_0 h0 n0 _ T72.heap _
  rw [e72]
  exact ⟨r13, r27, kr13, kr27, rfl, N72, (((((K_28.ext E27).wr W34 (Or.inl (List.mem_of_getElem? (i := 1) rfl))).wr W50 (Or.inr sz_r13)).wr W65 (Or.inr sz_r27)).wr W72 (Or.inl (List.mem_of_getElem? (i := 0) rfl))), (F_a1_columns_66.other W72 (Or.inr (slot_ne (Or.inr (hw _ (List.mem_of_getElem? (i := 13) rfl))) (Or.inl (hw _ (List.mem_of_getElem? (i := 20) rfl))) (by decide) (t := (.array (.array .int))) (t' := .int) (by decide) (by decide)))), Fw72, (V_gA_68.other W72 (Ne.symm ne_a1_gA)), ((V_50.other W65 ne_r13_r27).other W72 (Ne.symm ne_a1_r13)), ((((((A13.wr W16).ext E27).wr W34).wr W50).wr W65).wr W72), (V_65.other W72 (Ne.symm ne_a1_r27)), ((((A27.wr W34).wr W50).wr W65).wr W72), sz_r13, sz_r27, ne_r13_r27⟩
def QAdd2_2 (Z : State) (a1 gA : Addr) (kA : ClassId) (y0 y1 y2 : Int32) (d0_0 : Int32) (d0_1 : Int32) (d1_0 : Int32) (d1_1 : Int32) (h0 : Heap) (n0 : Nat) (v : Option Value) (h : Heap) (L : List Loc) : Prop := ∃ (z0 z1 : Addr) (kz0 kz1 : ClassId), v = none ∧ Fr n0 L ∧ Keep h0 h [a1, gA] ∧ Fld Z h a1 "com/example/clio/clio/repository/Columns" "columns" "[[I" (.ref gA) ∧ Fld Z h a1 "com/example/clio/clio/repository/Columns" "size" "I" (.int (3 : Int32)) ∧ Arv Z h gA kA (.array .int) (2 : Int32) [(.ref z0), (.ref z1)] .null ∧ Arv Z h z0 kz0 .int (4 : Int32) [(.int d0_0), (.int d0_1), (.int y0), (.int (0 : Int32))] (.int (0 : Int32)) ∧ Exa Z h z0 "[I" ∧ Arv Z h z1 kz1 .int (4 : Int32) [(.int d1_0), (.int d1_1), (.int y1), (.int (0 : Int32))] (.int (0 : Int32)) ∧ Exa Z h z1 "[I" ∧ h0.size ≤ z0 ∧ h0.size ≤ z1 ∧ z0 ≠ z1
set_option maxRecDepth 65536 in
set_option maxHeartbeats 40000000 in
theorem rmAdd2_2 (l : Launch) (Z : State) (a0 : Array Value) (hw : ∀ d ∈ tables_1, d.before a0 Z = true) (ws : List Jvm.Cond) (a1 : Addr) (r : Addr) (gA : Addr) (kA : ClassId) (kr : ClassId) (y0 : Int32) (y1 : Int32) (y2 : Int32) (x0 : Addr) (x1 : Addr) (kx0 : ClassId) (kx1 : ClassId) (d0_0 : Int32) (d0_1 : Int32) (d1_0 : Int32) (d1_1 : Int32) (h0 : Heap) (n0 : Nat) (Z0 : n0 ≤ h0.size) (F_columns : Fld Z h0 a1 "com/example/clio/clio/repository/Columns" "columns" "[[I" (.ref gA)) (F_size : Fld Z h0 a1 "com/example/clio/clio/repository/Columns" "size" "I" (.int (2 : Int32))) (E_a1 : Exa Z h0 a1 "com/example/clio/clio/repository/Columns") (V_gA : Arv Z h0 gA kA (.array .int) (2 : Int32) [(.ref x0), (.ref x1)] .null) (Ov : OvrA Z kA .int "[I") (V_r : Arv Z h0 r kr .int (3 : Int32) [(.int y0), (.int y1), (.int y2)] (.int (0 : Int32))) (V_x0 : Arv Z h0 x0 kx0 .int (2 : Int32) [(.int d0_0), (.int d0_1)] (.int (0 : Int32))) (E_x0 : Exa Z h0 x0 "[I") (V_x1 : Arv Z h0 x1 kx1 .int (2 : Int32) [(.int d1_0), (.int d1_1)] (.int (0 : Int32))) (E_x1 : Exa Z h0 x1 "[I") (ne_a1_r : a1 ≠ r) (ne_a1_gA : a1 ≠ gA) (ne_a1_x0 : a1 ≠ x0) (ne_a1_x1 : a1 ≠ x1) (ne_r_gA : r ≠ gA) (ne_r_x0 : r ≠ x0) (ne_r_x1 : r ≠ x1) (ne_gA_x0 : gA ≠ x0) (ne_gA_x1 : gA ≠ x1) (ne_x0_x1 : x0 ≠ x1) (g_a1 : n0 ≤ a1) (g_gA : n0 ≤ gA) (g_x0 : n0 ≤ x0) (g_x1 : n0 ≤ x1) :
    MetFree l (⟨"com/example/clio/clio/repository/Columns", "add", "([I)V"⟩ : MethodName) (head1 (Jvm.Cond.code (⟨"com/example/clio/clio/repository/Columns", "add", "([I)V"⟩ : MethodName) prog_22_method_2_code 3 none :: ws) ({ frames := 2, cells := 2, slots := 8, locals := 34 } : Room)) (fun a U => a = #[(.ref a1), (.ref r)] ∧ Z.Warmed39 U.vm ∧ U.heap = h0) (fun _ _ _ _ _ => True) (fun _ U o U' => ∃ v L, o = .returned v ∧ QAdd2_2 Z a1 gA kA y0 y1 y2 d0_0 d0_1 d1_0 d1_1 h0 n0 v U'.heap L ∧ FrameEnd U o U' L ({ frames := 2, cells := 2, slots := 8, locals := 34 } : Room).cells ({ frames := 2, cells := 2, slots := 8, locals := 34 } : Room).slots) := by
  refine MetFree.of_bodySF (plainFor_of_name pn_com_example_clio_clio_repository_Columns) hisR ?_
  intro p e s m args below meth c s₁ Bd hml0 hP hK
  obtain ⟨rfl, hZ, hh⟩ := hP
  have hx := Bd.exec
  have hby := Bd.bytes
  have hlk : meth.locks = false := BodyLoose.notSynchronized Bd
  have hml : c.maxLocals = 3 := hml0
  have hown : s.vm.findClass "com/example/clio/clio/repository/Columns" = some m.cls := findClass_of_methodNamed Bd.named
  have hnm := (name_of_methodNamed Bd.named Bd.method).1
  have X0 : Stand p l e ({ frames := 2, cells := 2, slots := 8, locals := 34 } : Room) s m #[(.ref a1), (.ref r)] below meth c s₁ [] 0 0 := Stand.of_body Bd
  have e0 : s₁.heap = h0 := by rw [← hh, Bd.state]; rfl
  have N0 := Fr.nil n0
  have hret := Bd.returns
  show Goes p e below (fun o U' => ∃ v L, o = .returned v ∧ QAdd2_2 Z a1 gA kA y0 y1 y2 d0_0 d0_1 d1_0 d1_1 h0 n0 v U'.heap L ∧ FrameEnd s o U' L ({ frames := 2, cells := 2, slots := 8, locals := 34 } : Room).cells ({ frames := 2, cells := 2, slots := 8, locals := 34 } : Room).slots) (s₁.setTop (entryFrame m #[(.ref a1), (.ref r)] 3))
  refine Goes.step ?_ (fun _ k => castTop (ef_add m a1 r) k)
  show Goes p e below _ (sF s₁ m 0 #[rv a1, rv r, .unset] [])
  refine Goes.step ?_ (fun _ k => XS.aloadN X0.here hx rfl (hb hby d7_0) rfl rfl k)
  show Goes p e below _ (sF s₁ m 1 #[rv a1, rv r, .unset] [(.ref a1)])
  obtain ⟨T1, X1, e1, st1⟩ := getF X0 hx hZ hown (host := "") (Or.inl (hw _ (List.mem_of_getElem? (i := 19) rfl))) Via.refl e0 F_size (g := (mkF m 1 #[rv a1, rv r, .unset] [(.ref a1)])) rfl rfl (hb hby d7_1)
  refine Goes.step ?_ st1
  show Goes p e below _ (sF T1 m 4 #[rv a1, rv r, .unset] [(.int (2 : Int32))])
  refine Goes.step ?_ (fun _ k => XS.aloadN X1.here hx rfl (hb hby d7_4) rfl rfl k)
  show Goes p e below _ (sF T1 m 5 #[rv a1, rv r, .unset] [(.ref a1), (.int (2 : Int32))])
  obtain ⟨T2, X2, e2, st2⟩ := getF X1 hx hZ hown (host := "") (Or.inl (hw _ (List.mem_of_getElem? (i := 12) rfl))) Via.refl e1 F_columns (g := (mkF m 5 #[rv a1, rv r, .unset] [(.ref a1), (.int (2 : Int32))])) rfl rfl (hb hby d7_5)
  refine Goes.step ?_ st2
  show Goes p e below _ (sF T2 m 8 #[rv a1, rv r, .unset] [(.ref gA), (.int (2 : Int32))])
  refine Goes.step ?_ (fun _ k => XS.iconst X2.here hx rfl (hb hby d7_8) k)
  show Goes p e below _ (sF T2 m 9 #[rv a1, rv r, .unset] [(.int (0 : Int32)), (.ref gA), (.int (2 : Int32))])
  obtain ⟨cl3, Ar3, q3, S3, N_3, H3, G3⟩ := id V_gA
  have hin4 : ¬ ((0 : Int32) < 0 ∨ cl3.slots.size ≤ ((0 : Int32)).toNatClampNeg) := inb_of S3 ⟨by decide, by decide⟩
  have hat4 : cl3.slots[((0 : Int32)).toNatClampNeg]? = some (.ref x0) := H3.at hin4 rfl
  refine Goes.step ?_ (fun _ k => X2.aaload hx (j := (0 : Int32)) (v := (.ref x0)) (by rw [e2]; exact Ar3.1) (State.isArrayOf_alike hZ.alike Ar3.2.1) rfl Ar3.2.2 hin4 hat4 (g := (mkF m 9 #[rv a1, rv r, .unset] [(.int (0 : Int32)), (.ref gA), (.int (2 : Int32))])) rfl rfl (hb hby d7_9) _ k)
  show Goes p e below _ (sF T2 m 10 #[rv a1, rv r, .unset] [(.ref x0), (.int (2 : Int32))])
  obtain ⟨cl5, Ar5, q5, S5, N_5, H5, G5⟩ := id V_x0
  refine Goes.step ?_ (fun _ k => X2.arraylength hx (by rw [e2]; exact Ar5.1) (State.isArrayOf_alike hZ.alike Ar5.2.1) (g := (mkF m 10 #[rv a1, rv r, .unset] [(.ref x0), (.int (2 : Int32))])) rfl rfl (hb hby d7_10) _ k)
  rw [len_of S5 N_5]
  show Goes p e below _ (sF T2 m 11 #[rv a1, rv r, .unset] [(.int (2 : Int32)), (.int (2 : Int32))])
  refine Goes.step ?_ (fun _ k => XS.icmpNo X2.here hx rfl (hb hby d7_11) rfl (teq (by decide : (2 : Int32) = (2 : Int32))).2 k)
  show Goes p e below _ (sF T2 m 14 #[rv a1, rv r, .unset] [])
  refine Goes.step ?_ (fun _ k => XS.iconst X2.here hx rfl (hb hby d7_14) k)
  show Goes p e below _ (sF T2 m 15 #[rv a1, rv r, .unset] [(.int (0 : Int32))])
  refine Goes.step ?_ (fun _ k => XS.istoreN X2.here hx rfl (hb hby d7_15) rfl (l' := #[rv a1, rv r, iv (0 : Int32)]) rfl k)
  show Goes p e below _ (sF T2 m 16 #[rv a1, rv r, iv (0 : Int32)] [])
  refine Goes.step ?_ (fun _ k => XS.iloadN X2.here hx rfl (hb hby d7_16) rfl  k)
  show Goes p e below _ (sF T2 m 17 #[rv a1, rv r, iv (0 : Int32)] [(.int (0 : Int32))])
  refine Goes.step ?_ (fun _ k => XS.aloadN X2.here hx rfl (hb hby d7_17) rfl rfl k)
  show Goes p e below _ (sF T2 m 18 #[rv a1, rv r, iv (0 : Int32)] [(.ref a1), (.int (0 : Int32))])
  obtain ⟨T6, X6, e6, st6⟩ := getF X2 hx hZ hown (host := "") (Or.inl (hw _ (List.mem_of_getElem? (i := 12) rfl))) Via.refl e2 F_columns (g := (mkF m 18 #[rv a1, rv r, iv (0 : Int32)] [(.ref a1), (.int (0 : Int32))])) rfl rfl (hb hby d7_18)
  refine Goes.step ?_ st6
  show Goes p e below _ (sF T6 m 21 #[rv a1, rv r, iv (0 : Int32)] [(.ref gA), (.int (0 : Int32))])
  obtain ⟨cl7, Ar7, q7, S7, N_7, H7, G7⟩ := id V_gA
  refine Goes.step ?_ (fun _ k => X6.arraylength hx (by rw [e6]; exact Ar7.1) (State.isArrayOf_alike hZ.alike Ar7.2.1) (g := (mkF m 21 #[rv a1, rv r, iv (0 : Int32)] [(.ref gA), (.int (0 : Int32))])) rfl rfl (hb hby d7_21) _ k)
  rw [len_of S7 N_7]
  show Goes p e below _ (sF T6 m 22 #[rv a1, rv r, iv (0 : Int32)] [(.int (2 : Int32)), (.int (0 : Int32))])
  refine Goes.step ?_ (fun _ k => XS.icmpNo X6.here hx rfl (hb hby d7_22) rfl (tlt (by decide : (0 : Int32) < (2 : Int32))).2.1 k)
  show Goes p e below _ (sF T6 m 25 #[rv a1, rv r, iv (0 : Int32)] [])
  refine Goes.step ?_ (fun _ k => XS.aloadN X6.here hx rfl (hb hby d7_25) rfl rfl k)
  show Goes p e below _ (sF T6 m 26 #[rv a1, rv r, iv (0 : Int32)] [(.ref a1)])
  obtain ⟨T8, X8, e8, st8⟩ := getF X6 hx hZ hown (host := "") (Or.inl (hw _ (List.mem_of_getElem? (i := 12) rfl))) Via.refl e6 F_columns (g := (mkF m 26 #[rv a1, rv r, iv (0 : Int32)] [(.ref a1)])) rfl rfl (hb hby d7_26)
  refine Goes.step ?_ st8
  show Goes p e below _ (sF T8 m 29 #[rv a1, rv r, iv (0 : Int32)] [(.ref gA)])
  refine Goes.step ?_ (fun _ k => XS.iloadN X8.here hx rfl (hb hby d7_29) rfl  k)
  show Goes p e below _ (sF T8 m 30 #[rv a1, rv r, iv (0 : Int32)] [(.int (0 : Int32)), (.ref gA)])
  refine Goes.step ?_ (fun _ k => XS.aloadN X8.here hx rfl (hb hby d7_30) rfl rfl k)
  show Goes p e below _ (sF T8 m 31 #[rv a1, rv r, iv (0 : Int32)] [(.ref a1), (.int (0 : Int32)), (.ref gA)])
  obtain ⟨T9, X9, e9, st9⟩ := getF X8 hx hZ hown (host := "") (Or.inl (hw _ (List.mem_of_getElem? (i := 12) rfl))) Via.refl e8 F_columns (g := (mkF m 31 #[rv a1, rv r, iv (0 : Int32)] [(.ref a1), (.int (0 : Int32)), (.ref gA)])) rfl rfl (hb hby d7_31)
  refine Goes.step ?_ st9
  show Goes p e below _ (sF T9 m 34 #[rv a1, rv r, iv (0 : Int32)] [(.ref gA), (.int (0 : Int32)), (.ref gA)])
  refine Goes.step ?_ (fun _ k => XS.iloadN X9.here hx rfl (hb hby d7_34) rfl  k)
  show Goes p e below _ (sF T9 m 35 #[rv a1, rv r, iv (0 : Int32)] [(.int (0 : Int32)), (.ref gA), (.int (0 : Int32)), (.ref gA)])
  obtain ⟨cl10, Ar10, q10, S10, N_10, H10, G10⟩ := id V_gA
  have hin11 : ¬ ((0 : Int32) < 0 ∨ cl10.slots.size ≤ ((0 : Int32)).toNatClampNeg) := inb_of S10 ⟨by decide, by decide⟩
  have hat11 : cl10.slots[((0 : Int32)).toNatClampNeg]? = some (.ref x0) := H10.at hin11 rfl
  refine Goes.step ?_ (fun _ k => X9.aaload hx (j := (0 : Int32)) (v := (.ref x0)) (by rw [e9]; exact Ar10.1) (State.isArrayOf_alike hZ.alike Ar10.2.1) rfl Ar10.2.2 hin11 hat11 (g := (mkF m 35 #[rv a1, rv r, iv (0 : Int32)] [(.int (0 : Int32)), (.ref gA), (.int (0 : Int32)), (.ref gA)])) rfl rfl (hb hby d7_35) _ k)
  show Goes p e below _ (sF T9 m 36 #[rv a1, rv r, iv (0 : Int32)] [(.ref x0), (.int (0 : Int32)), (.ref gA)])
  refine Goes.step ?_ (fun _ k => XS.aloadN X9.here hx rfl (hb hby d7_36) rfl rfl k)
  show Goes p e below _ (sF T9 m 37 #[rv a1, rv r, iv (0 : Int32)] [(.ref a1), (.ref x0), (.int (0 : Int32)), (.ref gA)])
  obtain ⟨T12, X12, e12, st12⟩ := getF X9 hx hZ hown (host := "") (Or.inl (hw _ (List.mem_of_getElem? (i := 19) rfl))) Via.refl e9 F_size (g := (mkF m 37 #[rv a1, rv r, iv (0 : Int32)] [(.ref a1), (.ref x0), (.int (0 : Int32)), (.ref gA)])) rfl rfl (hb hby d7_37)
  refine Goes.step ?_ st12
  show Goes p e below _ (sF T12 m 40 #[rv a1, rv r, iv (0 : Int32)] [(.int (2 : Int32)), (.ref x0), (.int (0 : Int32)), (.ref gA)])
  refine Goes.step ?_ (fun _ k => XS.iconst X12.here hx rfl (hb hby d7_40) k)
  show Goes p e below _ (sF T12 m 41 #[rv a1, rv r, iv (0 : Int32)] [(.int (2 : Int32)), (.int (2 : Int32)), (.ref x0), (.int (0 : Int32)), (.ref gA)])
  refine Goes.step ?_ (fun _ k => XS.imul X12.here hx rfl (hb hby d7_41) rfl k)
  show Goes p e below _ (sF T12 m 42 #[rv a1, rv r, iv (0 : Int32)] [(.int ((2 : Int32) * (2 : Int32))), (.ref x0), (.int (0 : Int32)), (.ref gA)])
  rw [show ((2 : Int32) * (2 : Int32)) = (4 : Int32) from by decide]
  show Goes p e below _ (sF T12 m 42 #[rv a1, rv r, iv (0 : Int32)] [(.int (4 : Int32)), (.ref x0), (.int (0 : Int32)), (.ref gA)])
  obtain ⟨_, _, ⟨T13, L13, k13, n13⟩, -, X13, ⟨Lc13, hQ13, l13, y13, z13⟩, st13⟩ := Jvm.LawKit.callS X12 hx (y := (⟨"java/util/Arrays", "copyOf", "([II)[I"⟩ : MethodName)) hown (mvT hZ (hw _ (List.mem_of_getElem? (i := 21) rfl))) (mvT hZ (hw _ (List.mem_of_getElem? (i := 22) rfl))) (mvT hZ (hw _ (List.mem_of_getElem? (i := 23) rfl))) (mvT hZ (hw _ (List.mem_of_getElem? (i := 24) rfl))) (by decide) (backOf (W := 2) (rmCp2_4 l Z a0 hw [] x0 d0_0 d0_1 kx0 h0 n0 Z0 V_x0) hZ (hw _ (List.mem_of_getElem? (i := 24) rfl)) (hw _ (List.mem_of_getElem? (i := 23) rfl)) (by decide) (by decide)) (g := (mkF m 42 #[rv a1, rv r, iv (0 : Int32)] [(.int (4 : Int32)), (.ref x0), (.int (0 : Int32)), (.ref gA)])) rfl (by rw [hml]; rfl) (argsL := [(.ref x0), (.int (4 : Int32))]) (rest := [(.int (0 : Int32)), (.ref gA)]) (lenOf pd__28_5bII_29_5bI rfl) rfl (by show 2 * 0 + _ ≤ _; exact Nat.le_of_eq rfl) (hb hby d7_42) (fun _ _ => ⟨rfl, e12, (by decide : 0 + 1 ≤ _), (by decide : 0 + 4 ≤ _)⟩)
  dsimp only [Pt.U, Pt.locs, Pt.cells, Pt.slots] at X13 l13 y13 z13 st13 hQ13
  subst l13 y13 z13
  obtain ⟨r13, kr13, rfl, N13q, E13, gr13, Vr13, A13⟩ := hQ13
  have N13 := Fr.app N0 N13q
  refine Goes.step ?_ st13
  have g_r13 : n0 ≤ r13 := Nat.le_trans Z0 gr13
  have sz_r13 : h0.size ≤ r13 := Nat.le_trans (Keep.refl h0 [a1, gA]).1 gr13
  have ne_a1_r13 : a1 ≠ r13 := Nat.ne_of_lt (Nat.lt_of_lt_of_le F_columns.lt gr13)
  have ne_gA_r13 : gA ≠ r13 := Nat.ne_of_lt (Nat.lt_of_lt_of_le V_gA.lt gr13)
  have ne_r_r13 : r ≠ r13 := Nat.ne_of_lt (Nat.lt_of_lt_of_le V_r.lt gr13)
  have ne_x0_r13 : x0 ≠ r13 := Nat.ne_of_lt (Nat.lt_of_lt_of_le V_x0.lt gr13)
  have ne_x1_r13 : x1 ≠ r13 := Nat.ne_of_lt (Nat.lt_of_lt_of_le V_x1.lt gr13)
  have Zs13 : n0 ≤ T13.heap.size := Nat.le_trans Z0 E13.1
  show Goes p e below _ (sF T13 m 45 #[rv a1, rv r, iv (0 : Int32)] [(.ref r13), (.int (0 : Int32)), (.ref gA)])
  have V_gA_14 := (V_gA.ext E13)
  obtain ⟨cl15, Ar15, q15, S15, N_15, H15, G15⟩ := id V_gA_14
  have hin16 : ¬ ((0 : Int32) < 0 ∨ cl15.slots.size ≤ ((0 : Int32)).toNatClampNeg) := inb_of S15 ⟨by decide, by decide⟩
  obtain ⟨T16, h16, X16, e16, W16, st16⟩ := stR X13 hx hZ rfl Ar15 (j := (0 : Int32)) hin16 rfl (Sto.ofVA Ar15 q15 Ov (Ins.self A13)) (g := (mkF m 45 #[rv a1, rv r, iv (0 : Int32)] [(.ref r13), (.int (0 : Int32)), (.ref gA)])) rfl rfl (hb hby d7_45)
  have V_16 : Arv Z h16 gA kA (.array .int) (2 : Int32) [(.ref r13), (.ref x1)] .null := Arv.set Ar15 q15 S15 N_15 H15 G15 rfl W16 0 rfl (Nat.le_of_ble_eq_true rfl)
  have Zs16 : n0 ≤ h16.size := Nat.le_trans Zs13 (Keep.of_wr W16).1
  have N16 := Fr.snoc X16 N13 g_gA
  refine Goes.step ?_ st16
  show Goes p e below _ (sF T16 m 46 #[rv a1, rv r, iv (0 : Int32)] [])
  refine Goes.step ?_ (fun _ k => XS.iinc X16.here hx rfl (hb hby d7_46) rfl (l' := #[rv a1, rv r, iv ((0 : Int32) + (1 : Int32))]) rfl k)
  show Goes p e below _ (sF T16 m 49 #[rv a1, rv r, iv ((0 : Int32) + (1 : Int32))] [])
  rw [show ((0 : Int32) + (1 : Int32)) = (1 : Int32) from by decide]
  show Goes p e below _ (sF T16 m 49 #[rv a1, rv r, iv (1 : Int32)] [])
  refine Goes.step ?_ (fun _ k => XS.goto X16.here hx rfl (pc0 := 49) (pc' := 16) rfl (hb hby d7_49) (by decide) (by decide) k)
  show Goes p e below _ (sF T16 m 16 #[rv a1, rv r, iv (1 : Int32)] [])
  refine Goes.step ?_ (fun _ k => XS.iloadN X16.here hx rfl (hb hby d7_16) rfl  k)
  show Goes p e below _ (sF T16 m 17 #[rv a1, rv r, iv (1 : Int32)] [(.int (1 : Int32))])
  refine Goes.step ?_ (fun _ k => XS.aloadN X16.here hx rfl (hb hby d7_17) rfl rfl k)
  show Goes p e below _ (sF T16 m 18 #[rv a1, rv r, iv (1 : Int32)] [(.ref a1), (.int (1 : Int32))])
  have F_a1_columns_17 := ((F_columns.ext E13).other W16 (Or.inl ne_a1_gA))
  obtain ⟨T18, X18, e18, st18⟩ := getF X16 hx hZ hown (host := "") (Or.inl (hw _ (List.mem_of_getElem? (i := 12) rfl))) Via.refl e16 F_a1_columns_17 (g := (mkF m 18 #[rv a1, rv r, iv (1 : Int32)] [(.ref a1), (.int (1 : Int32))])) rfl rfl (hb hby d7_18)
  refine Goes.step ?_ st18
  show Goes p e below _ (sF T18 m 21 #[rv a1, rv r, iv (1 : Int32)] [(.ref gA), (.int (1 : Int32))])
  obtain ⟨cl19, Ar19, q19, S19, N_19, H19, G19⟩ := id V_16
  refine Goes.step ?_ (fun _ k => X18.arraylength hx (by rw [e18]; exact Ar19.1) (State.isArrayOf_alike hZ.alike Ar19.2.1) (g := (mkF m 21 #[rv a1, rv r, iv (1 : Int32)] [(.ref gA), (.int (1 : Int32))])) rfl rfl (hb hby d7_21) _ k)
  rw [len_of S19 N_19]
  show Goes p e below _ (sF T18 m 22 #[rv a1, rv r, iv (1 : Int32)] [(.int (2 : Int32)), (.int (1 : Int32))])
  refine Goes.step ?_ (fun _ k => XS.icmpNo X18.here hx rfl (hb hby d7_22) rfl (tlt (by decide : (1 : Int32) < (2 : Int32))).2.1 k)
  show Goes p e below _ (sF T18 m 25 #[rv a1, rv r, iv (1 : Int32)] [])
  refine Goes.step ?_ (fun _ k => XS.aloadN X18.here hx rfl (hb hby d7_25) rfl rfl k)
  show Goes p e below _ (sF T18 m 26 #[rv a1, rv r, iv (1 : Int32)] [(.ref a1)])
  obtain ⟨T20, X20, e20, st20⟩ := getF X18 hx hZ hown (host := "") (Or.inl (hw _ (List.mem_of_getElem? (i := 12) rfl))) Via.refl e18 F_a1_columns_17 (g := (mkF m 26 #[rv a1, rv r, iv (1 : Int32)] [(.ref a1)])) rfl rfl (hb hby d7_26)
  refine Goes.step ?_ st20
  show Goes p e below _ (sF T20 m 29 #[rv a1, rv r, iv (1 : Int32)] [(.ref gA)])
  refine Goes.step ?_ (fun _ k => XS.iloadN X20.here hx rfl (hb hby d7_29) rfl  k)
  show Goes p e below _ (sF T20 m 30 #[rv a1, rv r, iv (1 : Int32)] [(.int (1 : Int32)), (.ref gA)])
  refine Goes.step ?_ (fun _ k => XS.aloadN X20.here hx rfl (hb hby d7_30) rfl rfl k)
  show Goes p e below _ (sF T20 m 31 #[rv a1, rv r, iv (1 : Int32)] [(.ref a1), (.int (1 : Int32)), (.ref gA)])
  obtain ⟨T21, X21, e21, st21⟩ := getF X20 hx hZ hown (host := "") (Or.inl (hw _ (List.mem_of_getElem? (i := 12) rfl))) Via.refl e20 F_a1_columns_17 (g := (mkF m 31 #[rv a1, rv r, iv (1 : Int32)] [(.ref a1), (.int (1 : Int32)), (.ref gA)])) rfl rfl (hb hby d7_31)
  refine Goes.step ?_ st21
  show Goes p e below _ (sF T21 m 34 #[rv a1, rv r, iv (1 : Int32)] [(.ref gA), (.int (1 : Int32)), (.ref gA)])
  refine Goes.step ?_ (fun _ k => XS.iloadN X21.here hx rfl (hb hby d7_34) rfl  k)
  show Goes p e below _ (sF T21 m 35 #[rv a1, rv r, iv (1 : Int32)] [(.int (1 : Int32)), (.ref gA), (.int (1 : Int32)), (.ref gA)])
  obtain ⟨cl22, Ar22, q22, S22, N_22, H22, G22⟩ := id V_16
  have hin23 : ¬ ((1 : Int32) < 0 ∨ cl22.slots.size ≤ ((1 : Int32)).toNatClampNeg) := inb_of S22 ⟨by decide, by decide⟩
  have hat23 : cl22.slots[((1 : Int32)).toNatClampNeg]? = some (.ref x1) := H22.at hin23 rfl
  refine Goes.step ?_ (fun _ k => X21.aaload hx (j := (1 : Int32)) (v := (.ref x1)) (by rw [e21]; exact Ar22.1) (State.isArrayOf_alike hZ.alike Ar22.2.1) rfl Ar22.2.2 hin23 hat23 (g := (mkF m 35 #[rv a1, rv r, iv (1 : Int32)] [(.int (1 : Int32)), (.ref gA), (.int (1 : Int32)), (.ref gA)])) rfl rfl (hb hby d7_35) _ k)
  show Goes p e below _ (sF T21 m 36 #[rv a1, rv r, iv (1 : Int32)] [(.ref x1), (.int (1 : Int32)), (.ref gA)])
  refine Goes.step ?_ (fun _ k => XS.aloadN X21.here hx rfl (hb hby d7_36) rfl rfl k)
  show Goes p e below _ (sF T21 m 37 #[rv a1, rv r, iv (1 : Int32)] [(.ref a1), (.ref x1), (.int (1 : Int32)), (.ref gA)])
  have F_a1_size_24 := ((F_size.ext E13).other W16 (Or.inl ne_a1_gA))
  obtain ⟨T25, X25, e25, st25⟩ := getF X21 hx hZ hown (host := "") (Or.inl (hw _ (List.mem_of_getElem? (i := 19) rfl))) Via.refl e21 F_a1_size_24 (g := (mkF m 37 #[rv a1, rv r, iv (1 : Int32)] [(.ref a1), (.ref x1), (.int (1 : Int32)), (.ref gA)])) rfl rfl (hb hby d7_37)
  refine Goes.step ?_ st25
  show Goes p e below _ (sF T25 m 40 #[rv a1, rv r, iv (1 : Int32)] [(.int (2 : Int32)), (.ref x1), (.int (1 : Int32)), (.ref gA)])
  refine Goes.step ?_ (fun _ k => XS.iconst X25.here hx rfl (hb hby d7_40) k)
  show Goes p e below _ (sF T25 m 41 #[rv a1, rv r, iv (1 : Int32)] [(.int (2 : Int32)), (.int (2 : Int32)), (.ref x1), (.int (1 : Int32)), (.ref gA)])
  refine Goes.step ?_ (fun _ k => XS.imul X25.here hx rfl (hb hby d7_41) rfl k)
  show Goes p e below _ (sF T25 m 42 #[rv a1, rv r, iv (1 : Int32)] [(.int ((2 : Int32) * (2 : Int32))), (.ref x1), (.int (1 : Int32)), (.ref gA)])
  rw [show ((2 : Int32) * (2 : Int32)) = (4 : Int32) from by decide]
  show Goes p e below _ (sF T25 m 42 #[rv a1, rv r, iv (1 : Int32)] [(.int (4 : Int32)), (.ref x1), (.int (1 : Int32)), (.ref gA)])
  have V_x1_26 := ((V_x1.ext E13).other W16 (Ne.symm ne_gA_x1))
  obtain ⟨_, _, ⟨T27, L27, k27, n27⟩, -, X27, ⟨Lc27, hQ27, l27, y27, z27⟩, st27⟩ := Jvm.LawKit.callS X25 hx (y := (⟨"java/util/Arrays", "copyOf", "([II)[I"⟩ : MethodName)) hown (mvT hZ (hw _ (List.mem_of_getElem? (i := 21) rfl))) (mvT hZ (hw _ (List.mem_of_getElem? (i := 22) rfl))) (mvT hZ (hw _ (List.mem_of_getElem? (i := 23) rfl))) (mvT hZ (hw _ (List.mem_of_getElem? (i := 24) rfl))) (by decide) (backOf (W := 2) (rmCp2_4 l Z a0 hw [] x1 d1_0 d1_1 kx1 h16 n0 Zs16 V_x1_26) hZ (hw _ (List.mem_of_getElem? (i := 24) rfl)) (hw _ (List.mem_of_getElem? (i := 23) rfl)) (by decide) (by decide)) (g := (mkF m 42 #[rv a1, rv r, iv (1 : Int32)] [(.int (4 : Int32)), (.ref x1), (.int (1 : Int32)), (.ref gA)])) rfl (by rw [hml]; rfl) (argsL := [(.ref x1), (.int (4 : Int32))]) (rest := [(.int (1 : Int32)), (.ref gA)]) (lenOf pd__28_5bII_29_5bI rfl) rfl (by show 2 * 0 + _ ≤ _; exact Nat.le_of_eq rfl) (hb hby d7_42) (fun _ _ => ⟨rfl, e25, (by decide : 0 + 1 + 1 ≤ _), (by decide : 0 + 4 + 4 ≤ _)⟩)
  dsimp only [Pt.U, Pt.locs, Pt.cells, Pt.slots] at X27 l27 y27 z27 st27 hQ27
  subst l27 y27 z27
  obtain ⟨r27, kr27, rfl, N27q, E27, gr27, Vr27, A27⟩ := hQ27
  have N27 := Fr.app N16 N27q
  refine Goes.step ?_ st27
  have g_r27 : n0 ≤ r27 := Nat.le_trans Zs16 gr27
  have K_28 := (((Keep.refl h0 [a1, gA]).ext E13).wr W16 (Or.inl (List.mem_of_getElem? (i := 1) rfl)))
  have sz_r27 : h0.size ≤ r27 := Nat.le_trans K_28.1 gr27
  have ne_a1_r27 : a1 ≠ r27 := Nat.ne_of_lt (Nat.lt_of_lt_of_le F_a1_columns_17.lt gr27)
  have ne_gA_r27 : gA ≠ r27 := Nat.ne_of_lt (Nat.lt_of_lt_of_le V_16.lt gr27)
  have V_r_29 := ((V_r.ext E13).other W16 ne_r_gA)
  have ne_r_r27 : r ≠ r27 := Nat.ne_of_lt (Nat.lt_of_lt_of_le V_r_29.lt gr27)
  have V_x0_30 := ((V_x0.ext E13).other W16 (Ne.symm ne_gA_x0))
  have ne_x0_r27 : x0 ≠ r27 := Nat.ne_of_lt (Nat.lt_of_lt_of_le V_x0_30.lt gr27)
  have ne_x1_r27 : x1 ≠ r27 := Nat.ne_of_lt (Nat.lt_of_lt_of_le V_x1_26.lt gr27)
  have V_r13_31 := (Vr13.other W16 (Ne.symm ne_gA_r13))
  have ne_r13_r27 : r13 ≠ r27 := Nat.ne_of_lt (Nat.lt_of_lt_of_le V_r13_31.lt gr27)
  have Zs27 : n0 ≤ T27.heap.size := Nat.le_trans Zs16 E27.1
  show Goes p e below _ (sF T27 m 45 #[rv a1, rv r, iv (1 : Int32)] [(.ref r27), (.int (1 : Int32)), (.ref gA)])
  have V_gA_32 := (V_16.ext E27)
  obtain ⟨cl33, Ar33, q33, S33, N_33, H33, G33⟩ := id V_gA_32
  have hin34 : ¬ ((1 : Int32) < 0 ∨ cl33.slots.size ≤ ((1 : Int32)).toNatClampNeg) := inb_of S33 ⟨by decide, by decide⟩
  obtain ⟨T34, h34, X34, e34, W34, st34⟩ := stR X27 hx hZ rfl Ar33 (j := (1 : Int32)) hin34 rfl (Sto.ofVA Ar33 q33 Ov (Ins.self A27)) (g := (mkF m 45 #[rv a1, rv r, iv (1 : Int32)] [(.ref r27), (.int (1 : Int32)), (.ref gA)])) rfl rfl (hb hby d7_45)
  have V_34 : Arv Z h34 gA kA (.array .int) (2 : Int32) [(.ref r13), (.ref r27)] .null := Arv.set Ar33 q33 S33 N_33 H33 G33 rfl W34 1 rfl (Nat.le_of_ble_eq_true rfl)
  have Zs34 : n0 ≤ h34.size := Nat.le_trans Zs27 (Keep.of_wr W34).1
  have N34 := Fr.snoc X34 N27 g_gA
  refine Goes.step ?_ st34
  show Goes p e below _ (sF T34 m 46 #[rv a1, rv r, iv (1 : Int32)] [])
  refine Goes.step ?_ (fun _ k => XS.iinc X34.here hx rfl (hb hby d7_46) rfl (l' := #[rv a1, rv r, iv ((1 : Int32) + (1 : Int32))]) rfl k)
  show Goes p e below _ (sF T34 m 49 #[rv a1, rv r, iv ((1 : Int32) + (1 : Int32))] [])
  rw [show ((1 : Int32) + (1 : Int32)) = (2 : Int32) from by decide]
  show Goes p e below _ (sF T34 m 49 #[rv a1, rv r, iv (2 : Int32)] [])
  refine Goes.step ?_ (fun _ k => XS.goto X34.here hx rfl (pc0 := 49) (pc' := 16) rfl (hb hby d7_49) (by decide) (by decide) k)
  show Goes p e below _ (sF T34 m 16 #[rv a1, rv r, iv (2 : Int32)] [])
  refine Goes.step ?_ (fun _ k => XS.iloadN X34.here hx rfl (hb hby d7_16) rfl  k)
  show Goes p e below _ (sF T34 m 17 #[rv a1, rv r, iv (2 : Int32)] [(.int (2 : Int32))])
  refine Goes.step ?_ (fun _ k => XS.aloadN X34.here hx rfl (hb hby d7_17) rfl rfl k)
  show Goes p e below _ (sF T34 m 18 #[rv a1, rv r, iv (2 : Int32)] [(.ref a1), (.int (2 : Int32))])
  have F_a1_columns_35 := ((F_a1_columns_17.ext E27).other W34 (Or.inl ne_a1_gA))
  obtain ⟨T36, X36, e36, st36⟩ := getF X34 hx hZ hown (host := "") (Or.inl (hw _ (List.mem_of_getElem? (i := 12) rfl))) Via.refl e34 F_a1_columns_35 (g := (mkF m 18 #[rv a1, rv r, iv (2 : Int32)] [(.ref a1), (.int (2 : Int32))])) rfl rfl (hb hby d7_18)
  refine Goes.step ?_ st36
  show Goes p e below _ (sF T36 m 21 #[rv a1, rv r, iv (2 : Int32)] [(.ref gA), (.int (2 : Int32))])
  obtain ⟨cl37, Ar37, q37, S37, N_37, H37, G37⟩ := id V_34
  refine Goes.step ?_ (fun _ k => X36.arraylength hx (by rw [e36]; exact Ar37.1) (State.isArrayOf_alike hZ.alike Ar37.2.1) (g := (mkF m 21 #[rv a1, rv r, iv (2 : Int32)] [(.ref gA), (.int (2 : Int32))])) rfl rfl (hb hby d7_21) _ k)
  rw [len_of S37 N_37]
  show Goes p e below _ (sF T36 m 22 #[rv a1, rv r, iv (2 : Int32)] [(.int (2 : Int32)), (.int (2 : Int32))])
  refine Goes.step ?_ (fun _ k => XS.icmpYes X36.here hx rfl (pc0 := 22) (pc' := 52) rfl (hb hby d7_22) rfl (flt (by decide : ¬ ((2 : Int32) < (2 : Int32)))).2.1 (by decide) (by decide) k)
  show Goes p e below _ (sF T36 m 52 #[rv a1, rv r, iv (2 : Int32)] [])
  refine Goes.step ?_ (fun _ k => XS.iconst X36.here hx rfl (hb hby d7_52) k)
  show Goes p e below _ (sF T36 m 53 #[rv a1, rv r, iv (2 : Int32)] [(.int (0 : Int32))])
  refine Goes.step ?_ (fun _ k => XS.istoreN X36.here hx rfl (hb hby d7_53) rfl (l' := #[rv a1, rv r, iv (0 : Int32)]) rfl k)
  show Goes p e below _ (sF T36 m 54 #[rv a1, rv r, iv (0 : Int32)] [])
  refine Goes.step ?_ (fun _ k => XS.iloadN X36.here hx rfl (hb hby d7_54) rfl  k)
  show Goes p e below _ (sF T36 m 55 #[rv a1, rv r, iv (0 : Int32)] [(.int (0 : Int32))])
  refine Goes.step ?_ (fun _ k => XS.aloadN X36.here hx rfl (hb hby d7_55) rfl rfl k)
  show Goes p e below _ (sF T36 m 56 #[rv a1, rv r, iv (0 : Int32)] [(.ref a1), (.int (0 : Int32))])
  obtain ⟨T38, X38, e38, st38⟩ := getF X36 hx hZ hown (host := "") (Or.inl (hw _ (List.mem_of_getElem? (i := 12) rfl))) Via.refl e36 F_a1_columns_35 (g := (mkF m 56 #[rv a1, rv r, iv (0 : Int32)] [(.ref a1), (.int (0 : Int32))])) rfl rfl (hb hby d7_56)
  refine Goes.step ?_ st38
  show Goes p e below _ (sF T38 m 59 #[rv a1, rv r, iv (0 : Int32)] [(.ref gA), (.int (0 : Int32))])
  obtain ⟨cl39, Ar39, q39, S39, N_39, H39, G39⟩ := id V_34
  refine Goes.step ?_ (fun _ k => X38.arraylength hx (by rw [e38]; exact Ar39.1) (State.isArrayOf_alike hZ.alike Ar39.2.1) (g := (mkF m 59 #[rv a1, rv r, iv (0 : Int32)] [(.ref gA), (.int (0 : Int32))])) rfl rfl (hb hby d7_59) _ k)
  rw [len_of S39 N_39]
  show Goes p e below _ (sF T38 m 60 #[rv a1, rv r, iv (0 : Int32)] [(.int (2 : Int32)), (.int (0 : Int32))])
  refine Goes.step ?_ (fun _ k => XS.icmpNo X38.here hx rfl (hb hby d7_60) rfl (tlt (by decide : (0 : Int32) < (2 : Int32))).2.1 k)
  show Goes p e below _ (sF T38 m 63 #[rv a1, rv r, iv (0 : Int32)] [])
  refine Goes.step ?_ (fun _ k => XS.aloadN X38.here hx rfl (hb hby d7_63) rfl rfl k)
  show Goes p e below _ (sF T38 m 64 #[rv a1, rv r, iv (0 : Int32)] [(.ref a1)])
  obtain ⟨T40, X40, e40, st40⟩ := getF X38 hx hZ hown (host := "") (Or.inl (hw _ (List.mem_of_getElem? (i := 12) rfl))) Via.refl e38 F_a1_columns_35 (g := (mkF m 64 #[rv a1, rv r, iv (0 : Int32)] [(.ref a1)])) rfl rfl (hb hby d7_64)
  refine Goes.step ?_ st40
  show Goes p e below _ (sF T40 m 67 #[rv a1, rv r, iv (0 : Int32)] [(.ref gA)])
  refine Goes.step ?_ (fun _ k => XS.iloadN X40.here hx rfl (hb hby d7_67) rfl  k)
  show Goes p e below _ (sF T40 m 68 #[rv a1, rv r, iv (0 : Int32)] [(.int (0 : Int32)), (.ref gA)])
  obtain ⟨cl41, Ar41, q41, S41, N_41, H41, G41⟩ := id V_34
  have hin42 : ¬ ((0 : Int32) < 0 ∨ cl41.slots.size ≤ ((0 : Int32)).toNatClampNeg) := inb_of S41 ⟨by decide, by decide⟩
  have hat42 : cl41.slots[((0 : Int32)).toNatClampNeg]? = some (.ref r13) := H41.at hin42 rfl
  refine Goes.step ?_ (fun _ k => X40.aaload hx (j := (0 : Int32)) (v := (.ref r13)) (by rw [e40]; exact Ar41.1) (State.isArrayOf_alike hZ.alike Ar41.2.1) rfl Ar41.2.2 hin42 hat42 (g := (mkF m 68 #[rv a1, rv r, iv (0 : Int32)] [(.int (0 : Int32)), (.ref gA)])) rfl rfl (hb hby d7_68) _ k)
  show Goes p e below _ (sF T40 m 69 #[rv a1, rv r, iv (0 : Int32)] [(.ref r13)])
  refine Goes.step ?_ (fun _ k => XS.aloadN X40.here hx rfl (hb hby d7_69) rfl rfl k)
  show Goes p e below _ (sF T40 m 70 #[rv a1, rv r, iv (0 : Int32)] [(.ref a1), (.ref r13)])
  have F_a1_size_43 := ((F_a1_size_24.ext E27).other W34 (Or.inl ne_a1_gA))
  obtain ⟨T44, X44, e44, st44⟩ := getF X40 hx hZ hown (host := "") (Or.inl (hw _ (List.mem_of_getElem? (i := 19) rfl))) Via.refl e40 F_a1_size_43 (g := (mkF m 70 #[rv a1, rv r, iv (0 : Int32)] [(.ref a1), (.ref r13)])) rfl rfl (hb hby d7_70)
  refine Goes.step ?_ st44
  show Goes p e below _ (sF T44 m 73 #[rv a1, rv r, iv (0 : Int32)] [(.int (2 : Int32)), (.ref r13)])
  refine Goes.step ?_ (fun _ k => XS.aloadN X44.here hx rfl (hb hby d7_73) rfl rfl k)
  show Goes p e below _ (sF T44 m 74 #[rv a1, rv r, iv (0 : Int32)] [(.ref r), (.int (2 : Int32)), (.ref r13)])
  refine Goes.step ?_ (fun _ k => XS.iloadN X44.here hx rfl (hb hby d7_74) rfl  k)
  show Goes p e below _ (sF T44 m 75 #[rv a1, rv r, iv (0 : Int32)] [(.int (0 : Int32)), (.ref r), (.int (2 : Int32)), (.ref r13)])
  have V_r_45 := ((V_r_29.ext E27).other W34 ne_r_gA)
  obtain ⟨cl46, Ar46, q46, S46, N_46, H46, G46⟩ := id V_r_45
  have hin47 : ¬ ((0 : Int32) < 0 ∨ cl46.slots.size ≤ ((0 : Int32)).toNatClampNeg) := inb_of S46 ⟨by decide, by decide⟩
  have hat47 : cl46.slots[((0 : Int32)).toNatClampNeg]? = some (.int y0) := H46.at hin47 rfl
  refine Goes.step ?_ (fun _ k => X44.iaload hx (j := (0 : Int32)) (v := (.int y0)) (by rw [e44]; exact Ar46.1) (State.isArrayOf_alike hZ.alike Ar46.2.1) Ar46.2.2 hin47 hat47 (g := (mkF m 75 #[rv a1, rv r, iv (0 : Int32)] [(.int (0 : Int32)), (.ref r), (.int (2 : Int32)), (.ref r13)])) rfl rfl (hb hby d7_75) _ k)
  show Goes p e below _ (sF T44 m 76 #[rv a1, rv r, iv (0 : Int32)] [(.int y0), (.int (2 : Int32)), (.ref r13)])
  have V_r13_48 := ((V_r13_31.ext E27).other W34 (Ne.symm ne_gA_r13))
  obtain ⟨cl49, Ar49, q49, S49, N_49, H49, G49⟩ := id V_r13_48
  have hin50 : ¬ ((2 : Int32) < 0 ∨ cl49.slots.size ≤ ((2 : Int32)).toNatClampNeg) := inb_of S49 ⟨by decide, by decide⟩
  obtain ⟨T50, h50, X50, e50, W50, st50⟩ := stI X44 hx hZ e44 Ar49 (j := (2 : Int32)) hin50 (g := (mkF m 76 #[rv a1, rv r, iv (0 : Int32)] [(.int y0), (.int (2 : Int32)), (.ref r13)])) rfl rfl (hb hby d7_76)
  have V_50 : Arv Z h50 r13 kr13 .int (4 : Int32) [(.int d0_0), (.int d0_1), (.int y0), (.int (0 : Int32))] (.int (0 : Int32)) := Arv.set Ar49 q49 S49 N_49 H49 G49 rfl W50 2 rfl (Nat.le_of_ble_eq_true rfl)
  have Zs50 : n0 ≤ h50.size := Nat.le_trans Zs34 (Keep.of_wr W50).1
  have N50 := Fr.snoc X50 N34 g_r13
  refine Goes.step ?_ st50
  show Goes p e below _ (sF T50 m 77 #[rv a1, rv r, iv (0 : Int32)] [])
  refine Goes.step ?_ (fun _ k => XS.iinc X50.here hx rfl (hb hby d7_77) rfl (l' := #[rv a1, rv r, iv ((0 : Int32) + (1 : Int32))]) rfl k)
  show Goes p e below _ (sF T50 m 80 #[rv a1, rv r, iv ((0 : Int32) + (1 : Int32))] [])
  rw [show ((0 : Int32) + (1 : Int32)) = (1 : Int32) from by decide]
  show Goes p e below _ (sF T50 m 80 #[rv a1, rv r, iv (1 : Int32)] [])
  refine Goes.step ?_ (fun _ k => XS.goto X50.here hx rfl (pc0 := 80) (pc' := 54) rfl (hb hby d7_80) (by decide) (by decide) k)
  show Goes p e below _ (sF T50 m 54 #[rv a1, rv r, iv (1 : Int32)] [])
  refine Goes.step ?_ (fun _ k => XS.iloadN X50.here hx rfl (hb hby d7_54) rfl  k)
  show Goes p e below _ (sF T50 m 55 #[rv a1, rv r, iv (1 : Int32)] [(.int (1 : Int32))])
  refine Goes.step ?_ (fun _ k => XS.aloadN X50.here hx rfl (hb hby d7_55) rfl rfl k)
  show Goes p e below _ (sF T50 m 56 #[rv a1, rv r, iv (1 : Int32)] [(.ref a1), (.int (1 : Int32))])
  have F_a1_columns_51 := (F_a1_columns_35.other W50 (Or.inl ne_a1_r13))
  obtain ⟨T52, X52, e52, st52⟩ := getF X50 hx hZ hown (host := "") (Or.inl (hw _ (List.mem_of_getElem? (i := 12) rfl))) Via.refl e50 F_a1_columns_51 (g := (mkF m 56 #[rv a1, rv r, iv (1 : Int32)] [(.ref a1), (.int (1 : Int32))])) rfl rfl (hb hby d7_56)
  refine Goes.step ?_ st52
  show Goes p e below _ (sF T52 m 59 #[rv a1, rv r, iv (1 : Int32)] [(.ref gA), (.int (1 : Int32))])
  have V_gA_53 := (V_34.other W50 ne_gA_r13)
  obtain ⟨cl54, Ar54, q54, S54, N_54, H54, G54⟩ := id V_gA_53
  refine Goes.step ?_ (fun _ k => X52.arraylength hx (by rw [e52]; exact Ar54.1) (State.isArrayOf_alike hZ.alike Ar54.2.1) (g := (mkF m 59 #[rv a1, rv r, iv (1 : Int32)] [(.ref gA), (.int (1 : Int32))])) rfl rfl (hb hby d7_59) _ k)
  rw [len_of S54 N_54]
  show Goes p e below _ (sF T52 m 60 #[rv a1, rv r, iv (1 : Int32)] [(.int (2 : Int32)), (.int (1 : Int32))])
  refine Goes.step ?_ (fun _ k => XS.icmpNo X52.here hx rfl (hb hby d7_60) rfl (tlt (by decide : (1 : Int32) < (2 : Int32))).2.1 k)
  show Goes p e below _ (sF T52 m 63 #[rv a1, rv r, iv (1 : Int32)] [])
  refine Goes.step ?_ (fun _ k => XS.aloadN X52.here hx rfl (hb hby d7_63) rfl rfl k)
  show Goes p e below _ (sF T52 m 64 #[rv a1, rv r, iv (1 : Int32)] [(.ref a1)])
  obtain ⟨T55, X55, e55, st55⟩ := getF X52 hx hZ hown (host := "") (Or.inl (hw _ (List.mem_of_getElem? (i := 12) rfl))) Via.refl e52 F_a1_columns_51 (g := (mkF m 64 #[rv a1, rv r, iv (1 : Int32)] [(.ref a1)])) rfl rfl (hb hby d7_64)
  refine Goes.step ?_ st55
  show Goes p e below _ (sF T55 m 67 #[rv a1, rv r, iv (1 : Int32)] [(.ref gA)])
  refine Goes.step ?_ (fun _ k => XS.iloadN X55.here hx rfl (hb hby d7_67) rfl  k)
  show Goes p e below _ (sF T55 m 68 #[rv a1, rv r, iv (1 : Int32)] [(.int (1 : Int32)), (.ref gA)])
  obtain ⟨cl56, Ar56, q56, S56, N_56, H56, G56⟩ := id V_gA_53
  have hin57 : ¬ ((1 : Int32) < 0 ∨ cl56.slots.size ≤ ((1 : Int32)).toNatClampNeg) := inb_of S56 ⟨by decide, by decide⟩
  have hat57 : cl56.slots[((1 : Int32)).toNatClampNeg]? = some (.ref r27) := H56.at hin57 rfl
  refine Goes.step ?_ (fun _ k => X55.aaload hx (j := (1 : Int32)) (v := (.ref r27)) (by rw [e55]; exact Ar56.1) (State.isArrayOf_alike hZ.alike Ar56.2.1) rfl Ar56.2.2 hin57 hat57 (g := (mkF m 68 #[rv a1, rv r, iv (1 : Int32)] [(.int (1 : Int32)), (.ref gA)])) rfl rfl (hb hby d7_68) _ k)
  show Goes p e below _ (sF T55 m 69 #[rv a1, rv r, iv (1 : Int32)] [(.ref r27)])
  refine Goes.step ?_ (fun _ k => XS.aloadN X55.here hx rfl (hb hby d7_69) rfl rfl k)
  show Goes p e below _ (sF T55 m 70 #[rv a1, rv r, iv (1 : Int32)] [(.ref a1), (.ref r27)])
  have F_a1_size_58 := (F_a1_size_43.other W50 (Or.inl ne_a1_r13))
  obtain ⟨T59, X59, e59, st59⟩ := getF X55 hx hZ hown (host := "") (Or.inl (hw _ (List.mem_of_getElem? (i := 19) rfl))) Via.refl e55 F_a1_size_58 (g := (mkF m 70 #[rv a1, rv r, iv (1 : Int32)] [(.ref a1), (.ref r27)])) rfl rfl (hb hby d7_70)
  refine Goes.step ?_ st59
  show Goes p e below _ (sF T59 m 73 #[rv a1, rv r, iv (1 : Int32)] [(.int (2 : Int32)), (.ref r27)])
  refine Goes.step ?_ (fun _ k => XS.aloadN X59.here hx rfl (hb hby d7_73) rfl rfl k)
  show Goes p e below _ (sF T59 m 74 #[rv a1, rv r, iv (1 : Int32)] [(.ref r), (.int (2 : Int32)), (.ref r27)])
  refine Goes.step ?_ (fun _ k => XS.iloadN X59.here hx rfl (hb hby d7_74) rfl  k)
  show Goes p e below _ (sF T59 m 75 #[rv a1, rv r, iv (1 : Int32)] [(.int (1 : Int32)), (.ref r), (.int (2 : Int32)), (.ref r27)])
  have V_r_60 := (V_r_45.other W50 ne_r_r13)
  obtain ⟨cl61, Ar61, q61, S61, N_61, H61, G61⟩ := id V_r_60
  have hin62 : ¬ ((1 : Int32) < 0 ∨ cl61.slots.size ≤ ((1 : Int32)).toNatClampNeg) := inb_of S61 ⟨by decide, by decide⟩
  have hat62 : cl61.slots[((1 : Int32)).toNatClampNeg]? = some (.int y1) := H61.at hin62 rfl
  refine Goes.step ?_ (fun _ k => X59.iaload hx (j := (1 : Int32)) (v := (.int y1)) (by rw [e59]; exact Ar61.1) (State.isArrayOf_alike hZ.alike Ar61.2.1) Ar61.2.2 hin62 hat62 (g := (mkF m 75 #[rv a1, rv r, iv (1 : Int32)] [(.int (1 : Int32)), (.ref r), (.int (2 : Int32)), (.ref r27)])) rfl rfl (hb hby d7_75) _ k)
  show Goes p e below _ (sF T59 m 76 #[rv a1, rv r, iv (1 : Int32)] [(.int y1), (.int (2 : Int32)), (.ref r27)])
  have V_r27_63 := ((Vr27.other W34 (Ne.symm ne_gA_r27)).other W50 (Ne.symm ne_r13_r27))
  obtain ⟨cl64, Ar64, q64, S64, N_64, H64, G64⟩ := id V_r27_63
  have hin65 : ¬ ((2 : Int32) < 0 ∨ cl64.slots.size ≤ ((2 : Int32)).toNatClampNeg) := inb_of S64 ⟨by decide, by decide⟩
  obtain ⟨T65, h65, X65, e65, W65, st65⟩ := stI X59 hx hZ e59 Ar64 (j := (2 : Int32)) hin65 (g := (mkF m 76 #[rv a1, rv r, iv (1 : Int32)] [(.int y1), (.int (2 : Int32)), (.ref r27)])) rfl rfl (hb hby d7_76)
  have V_65 : Arv Z h65 r27 kr27 .int (4 : Int32) [(.int d1_0), (.int d1_1), (.int y1), (.int (0 : Int32))] (.int (0 : Int32)) := Arv.set Ar64 q64 S64 N_64 H64 G64 rfl W65 2 rfl (Nat.le_of_ble_eq_true rfl)
  have Zs65 : n0 ≤ h65.size := Nat.le_trans Zs50 (Keep.of_wr W65).1
  have N65 := Fr.snoc X65 N50 g_r27
  refine Goes.step ?_ st65
  show Goes p e below _ (sF T65 m 77 #[rv a1, rv r, iv (1 : Int32)] [])
  refine Goes.step ?_ (fun _ k => XS.iinc X65.here hx rfl (hb hby d7_77) rfl (l' := #[rv a1, rv r, iv ((1 : Int32) + (1 : Int32))]) rfl k)
  show Goes p e below _ (sF T65 m 80 #[rv a1, rv r, iv ((1 : Int32) + (1 : Int32))] [])
  rw [show ((1 : Int32) + (1 : Int32)) = (2 : Int32) from by decide]
  show Goes p e below _ (sF T65 m 80 #[rv a1, rv r, iv (2 : Int32)] [])
  refine Goes.step ?_ (fun _ k => XS.goto X65.here hx rfl (pc0 := 80) (pc' := 54) rfl (hb hby d7_80) (by decide) (by decide) k)
  show Goes p e below _ (sF T65 m 54 #[rv a1, rv r, iv (2 : Int32)] [])
  refine Goes.step ?_ (fun _ k => XS.iloadN X65.here hx rfl (hb hby d7_54) rfl  k)
  show Goes p e below _ (sF T65 m 55 #[rv a1, rv r, iv (2 : Int32)] [(.int (2 : Int32))])
  refine Goes.step ?_ (fun _ k => XS.aloadN X65.here hx rfl (hb hby d7_55) rfl rfl k)
  show Goes p e below _ (sF T65 m 56 #[rv a1, rv r, iv (2 : Int32)] [(.ref a1), (.int (2 : Int32))])
  have F_a1_columns_66 := (F_a1_columns_51.other W65 (Or.inl ne_a1_r27))
  obtain ⟨T67, X67, e67, st67⟩ := getF X65 hx hZ hown (host := "") (Or.inl (hw _ (List.mem_of_getElem? (i := 12) rfl))) Via.refl e65 F_a1_columns_66 (g := (mkF m 56 #[rv a1, rv r, iv (2 : Int32)] [(.ref a1), (.int (2 : Int32))])) rfl rfl (hb hby d7_56)
  refine Goes.step ?_ st67
  show Goes p e below _ (sF T67 m 59 #[rv a1, rv r, iv (2 : Int32)] [(.ref gA), (.int (2 : Int32))])
  have V_gA_68 := (V_gA_53.other W65 ne_gA_r27)
  obtain ⟨cl69, Ar69, q69, S69, N_69, H69, G69⟩ := id V_gA_68
  refine Goes.step ?_ (fun _ k => X67.arraylength hx (by rw [e67]; exact Ar69.1) (State.isArrayOf_alike hZ.alike Ar69.2.1) (g := (mkF m 59 #[rv a1, rv r, iv (2 : Int32)] [(.ref gA), (.int (2 : Int32))])) rfl rfl (hb hby d7_59) _ k)
  rw [len_of S69 N_69]
  show Goes p e below _ (sF T67 m 60 #[rv a1, rv r, iv (2 : Int32)] [(.int (2 : Int32)), (.int (2 : Int32))])
  refine Goes.step ?_ (fun _ k => XS.icmpYes X67.here hx rfl (pc0 := 60) (pc' := 83) rfl (hb hby d7_60) rfl (flt (by decide : ¬ ((2 : Int32) < (2 : Int32)))).2.1 (by decide) (by decide) k)
  show Goes p e below _ (sF T67 m 83 #[rv a1, rv r, iv (2 : Int32)] [])
  refine Goes.step ?_ (fun _ k => XS.aloadN X67.here hx rfl (hb hby d7_83) rfl rfl k)
  show Goes p e below _ (sF T67 m 84 #[rv a1, rv r, iv (2 : Int32)] [(.ref a1)])
  refine Goes.step ?_ (fun _ k => XS.dup X67.here hx rfl (hb hby d7_84) rfl rfl k)
  show Goes p e below _ (sF T67 m 85 #[rv a1, rv r, iv (2 : Int32)] [(.ref a1), (.ref a1)])
  have F_a1_size_70 := (F_a1_size_58.other W65 (Or.inl ne_a1_r27))
  obtain ⟨T71, X71, e71, st71⟩ := getF X67 hx hZ hown (host := "") (Or.inl (hw _ (List.mem_of_getElem? (i := 19) rfl))) Via.refl e67 F_a1_size_70 (g := (mkF m 85 #[rv a1, rv r, iv (2 : Int32)] [(.ref a1), (.ref a1)])) rfl rfl (hb hby d7_85)
  refine Goes.step ?_ st71
  show Goes p e below _ (sF T71 m 88 #[rv a1, rv r, iv (2 : Int32)] [(.int (2 : Int32)), (.ref a1)])
  refine Goes.step ?_ (fun _ k => XS.iconst X71.here hx rfl (hb hby d7_88) k)
  show Goes p e below _ (sF T71 m 89 #[rv a1, rv r, iv (2 : Int32)] [(.int (1 : Int32)), (.int (2 : Int32)), (.ref a1)])
  refine Goes.step ?_ (fun _ k => XS.iadd X71.here hx rfl (hb hby d7_89) rfl k)
  show Goes p e below _ (sF T71 m 90 #[rv a1, rv r, iv (2 : Int32)] [(.int ((2 : Int32) + (1 : Int32))), (.ref a1)])
  rw [show ((2 : Int32) + (1 : Int32)) = (3 : Int32) from by decide]
  show Goes p e below _ (sF T71 m 90 #[rv a1, rv r, iv (2 : Int32)] [(.int (3 : Int32)), (.ref a1)])
  have E_a1_73 := ((((((E_a1.ext E13).wr W16).ext E27).wr W34).wr W50).wr W65)
  obtain ⟨T72, h72, X72, e72, W72, st72⟩ := putF X71 hx hZ hown (host := "") (Or.inl (hw _ (List.mem_of_getElem? (i := 19) rfl))) Via.refl e71 F_a1_size_70 E_a1_73 (Or.inl (hw _ (List.mem_of_getElem? (i := 20) rfl))) (hw _ (List.mem_of_getElem? (i := 2) rfl)) (ty := .int) (by decide) rfl rfl (g := (mkF m 90 #[rv a1, rv r, iv (2 : Int32)] [(.int (3 : Int32)), (.ref a1)])) rfl rfl (hb hby d7_90)
  have Fw72 := F_a1_size_70.same W72
  have Zs72 : n0 ≤ h72.size := Nat.le_trans Zs65 (Keep.of_wr W72).1
  have N72 := Fr.snoc X72 N65 g_a1
  refine Goes.step ?_ st72
  show Goes p e below _ (sF T72 m 93 #[rv a1, rv r, iv (2 : Int32)] [])
  refine own_outV X72 hx hlk hret (hb hby d7_93) ?_ (by decide) (by decide)
  show QAdd2_2 Z a1 gA kA y0 y1 y2 d0_0 d0_1 d1_0 d1_1 h0 n0 _ T72.heap _
  rw [e72]
  exact ⟨r13, r27, kr13, kr27, rfl, N72, (((((K_28.ext E27).wr W34 (Or.inl (List.mem_of_getElem? (i := 1) rfl))).wr W50 (Or.inr sz_r13)).wr W65 (Or.inr sz_r27)).wr W72 (Or.inl (List.mem_of_getElem? (i := 0) rfl))), (F_a1_columns_66.other W72 (Or.inr (slot_ne (Or.inr (hw _ (List.mem_of_getElem? (i := 13) rfl))) (Or.inl (hw _ (List.mem_of_getElem? (i := 20) rfl))) (by decide) (t := (.array (.array .int))) (t' := .int) (by decide) (by decide)))), Fw72, (V_gA_68.other W72 (Ne.symm ne_a1_gA)), ((V_50.other W65 ne_r13_r27).other W72 (Ne.symm ne_a1_r13)), ((((((A13.wr W16).ext E27).wr W34).wr W50).wr W65).wr W72), (V_65.other W72 (Ne.symm ne_a1_r27)), ((((A27.wr W34).wr W50).wr W65).wr W72), sz_r13, sz_r27, ne_r13_r27⟩
def QAdd3_0 (Z : State) (a1 gA : Addr) (kA : ClassId) (y0 y1 y2 : Int32) (x0 : Addr) (x1 : Addr) (x2 : Addr) (kx0 : ClassId) (kx1 : ClassId) (kx2 : ClassId) (d0_0 : Int32) (d1_0 : Int32) (d2_0 : Int32) (h0 : Heap) (n0 : Nat) (v : Option Value) (h : Heap) (L : List Loc) : Prop := v = none ∧ Fr n0 L ∧ Keep h0 h [a1, x0, x1, x2] ∧ Fld Z h a1 "com/example/clio/clio/repository/Columns" "columns" "[[I" (.ref gA) ∧ Fld Z h a1 "com/example/clio/clio/repository/Columns" "size" "I" (.int (1 : Int32)) ∧ Arv Z h gA kA (.array .int) (3 : Int32) [(.ref x0), (.ref x1), (.ref x2)] .null ∧ Arv Z h x0 kx0 .int (1 : Int32) [(.int y0)] (.int (0 : Int32)) ∧ Exa Z h x0 "[I" ∧ Arv Z h x1 kx1 .int (1 : Int32) [(.int y1)] (.int (0 : Int32)) ∧ Exa Z h x1 "[I" ∧ Arv Z h x2 kx2 .int (1 : Int32) [(.int y2)] (.int (0 : Int32)) ∧ Exa Z h x2 "[I"
set_option maxRecDepth 65536 in
set_option maxHeartbeats 40000000 in
theorem rmAdd3_0 (l : Launch) (Z : State) (a0 : Array Value) (hw : ∀ d ∈ tables_1, d.before a0 Z = true) (ws : List Jvm.Cond) (a1 : Addr) (r : Addr) (gA : Addr) (kA : ClassId) (kr : ClassId) (y0 : Int32) (y1 : Int32) (y2 : Int32) (x0 : Addr) (x1 : Addr) (x2 : Addr) (kx0 : ClassId) (kx1 : ClassId) (kx2 : ClassId) (d0_0 : Int32) (d1_0 : Int32) (d2_0 : Int32) (h0 : Heap) (n0 : Nat) (Z0 : n0 ≤ h0.size) (F_columns : Fld Z h0 a1 "com/example/clio/clio/repository/Columns" "columns" "[[I" (.ref gA)) (F_size : Fld Z h0 a1 "com/example/clio/clio/repository/Columns" "size" "I" (.int (0 : Int32))) (E_a1 : Exa Z h0 a1 "com/example/clio/clio/repository/Columns") (V_gA : Arv Z h0 gA kA (.array .int) (3 : Int32) [(.ref x0), (.ref x1), (.ref x2)] .null) (Ov : OvrA Z kA .int "[I") (V_r : Arv Z h0 r kr .int (3 : Int32) [(.int y0), (.int y1), (.int y2)] (.int (0 : Int32))) (V_x0 : Arv Z h0 x0 kx0 .int (1 : Int32) [(.int d0_0)] (.int (0 : Int32))) (E_x0 : Exa Z h0 x0 "[I") (V_x1 : Arv Z h0 x1 kx1 .int (1 : Int32) [(.int d1_0)] (.int (0 : Int32))) (E_x1 : Exa Z h0 x1 "[I") (V_x2 : Arv Z h0 x2 kx2 .int (1 : Int32) [(.int d2_0)] (.int (0 : Int32))) (E_x2 : Exa Z h0 x2 "[I") (ne_a1_r : a1 ≠ r) (ne_a1_gA : a1 ≠ gA) (ne_a1_x0 : a1 ≠ x0) (ne_a1_x1 : a1 ≠ x1) (ne_a1_x2 : a1 ≠ x2) (ne_r_gA : r ≠ gA) (ne_r_x0 : r ≠ x0) (ne_r_x1 : r ≠ x1) (ne_r_x2 : r ≠ x2) (ne_gA_x0 : gA ≠ x0) (ne_gA_x1 : gA ≠ x1) (ne_gA_x2 : gA ≠ x2) (ne_x0_x1 : x0 ≠ x1) (ne_x0_x2 : x0 ≠ x2) (ne_x1_x2 : x1 ≠ x2) (g_a1 : n0 ≤ a1) (g_gA : n0 ≤ gA) (g_x0 : n0 ≤ x0) (g_x1 : n0 ≤ x1) (g_x2 : n0 ≤ x2) :
    MetFree l (⟨"com/example/clio/clio/repository/Columns", "add", "([I)V"⟩ : MethodName) (head1 (Jvm.Cond.code (⟨"com/example/clio/clio/repository/Columns", "add", "([I)V"⟩ : MethodName) prog_22_method_2_code 3 none :: ws) ({ frames := 2, cells := 0, slots := 0, locals := 34 } : Room)) (fun a U => a = #[(.ref a1), (.ref r)] ∧ Z.Warmed39 U.vm ∧ U.heap = h0) (fun _ _ _ _ _ => True) (fun _ U o U' => ∃ v L, o = .returned v ∧ QAdd3_0 Z a1 gA kA y0 y1 y2 x0 x1 x2 kx0 kx1 kx2 d0_0 d1_0 d2_0 h0 n0 v U'.heap L ∧ FrameEnd U o U' L ({ frames := 2, cells := 0, slots := 0, locals := 34 } : Room).cells ({ frames := 2, cells := 0, slots := 0, locals := 34 } : Room).slots) := by
  refine MetFree.of_bodySF (plainFor_of_name pn_com_example_clio_clio_repository_Columns) hisR ?_
  intro p e s m args below meth c s₁ Bd hml0 hP hK
  obtain ⟨rfl, hZ, hh⟩ := hP
  have hx := Bd.exec
  have hby := Bd.bytes
  have hlk : meth.locks = false := BodyLoose.notSynchronized Bd
  have hml : c.maxLocals = 3 := hml0
  have hown : s.vm.findClass "com/example/clio/clio/repository/Columns" = some m.cls := findClass_of_methodNamed Bd.named
  have hnm := (name_of_methodNamed Bd.named Bd.method).1
  have X0 : Stand p l e ({ frames := 2, cells := 0, slots := 0, locals := 34 } : Room) s m #[(.ref a1), (.ref r)] below meth c s₁ [] 0 0 := Stand.of_body Bd
  have e0 : s₁.heap = h0 := by rw [← hh, Bd.state]; rfl
  have N0 := Fr.nil n0
  have hret := Bd.returns
  show Goes p e below (fun o U' => ∃ v L, o = .returned v ∧ QAdd3_0 Z a1 gA kA y0 y1 y2 x0 x1 x2 kx0 kx1 kx2 d0_0 d1_0 d2_0 h0 n0 v U'.heap L ∧ FrameEnd s o U' L ({ frames := 2, cells := 0, slots := 0, locals := 34 } : Room).cells ({ frames := 2, cells := 0, slots := 0, locals := 34 } : Room).slots) (s₁.setTop (entryFrame m #[(.ref a1), (.ref r)] 3))
  refine Goes.step ?_ (fun _ k => castTop (ef_add m a1 r) k)
  show Goes p e below _ (sF s₁ m 0 #[rv a1, rv r, .unset] [])
  refine Goes.step ?_ (fun _ k => XS.aloadN X0.here hx rfl (hb hby d7_0) rfl rfl k)
  show Goes p e below _ (sF s₁ m 1 #[rv a1, rv r, .unset] [(.ref a1)])
  obtain ⟨T1, X1, e1, st1⟩ := getF X0 hx hZ hown (host := "") (Or.inl (hw _ (List.mem_of_getElem? (i := 19) rfl))) Via.refl e0 F_size (g := (mkF m 1 #[rv a1, rv r, .unset] [(.ref a1)])) rfl rfl (hb hby d7_1)
  refine Goes.step ?_ st1
  show Goes p e below _ (sF T1 m 4 #[rv a1, rv r, .unset] [(.int (0 : Int32))])
  refine Goes.step ?_ (fun _ k => XS.aloadN X1.here hx rfl (hb hby d7_4) rfl rfl k)
  show Goes p e below _ (sF T1 m 5 #[rv a1, rv r, .unset] [(.ref a1), (.int (0 : Int32))])
  obtain ⟨T2, X2, e2, st2⟩ := getF X1 hx hZ hown (host := "") (Or.inl (hw _ (List.mem_of_getElem? (i := 12) rfl))) Via.refl e1 F_columns (g := (mkF m 5 #[rv a1, rv r, .unset] [(.ref a1), (.int (0 : Int32))])) rfl rfl (hb hby d7_5)
  refine Goes.step ?_ st2
  show Goes p e below _ (sF T2 m 8 #[rv a1, rv r, .unset] [(.ref gA), (.int (0 : Int32))])
  refine Goes.step ?_ (fun _ k => XS.iconst X2.here hx rfl (hb hby d7_8) k)
  show Goes p e below _ (sF T2 m 9 #[rv a1, rv r, .unset] [(.int (0 : Int32)), (.ref gA), (.int (0 : Int32))])
  obtain ⟨cl3, Ar3, q3, S3, N_3, H3, G3⟩ := id V_gA
  have hin4 : ¬ ((0 : Int32) < 0 ∨ cl3.slots.size ≤ ((0 : Int32)).toNatClampNeg) := inb_of S3 ⟨by decide, by decide⟩
  have hat4 : cl3.slots[((0 : Int32)).toNatClampNeg]? = some (.ref x0) := H3.at hin4 rfl
  refine Goes.step ?_ (fun _ k => X2.aaload hx (j := (0 : Int32)) (v := (.ref x0)) (by rw [e2]; exact Ar3.1) (State.isArrayOf_alike hZ.alike Ar3.2.1) rfl Ar3.2.2 hin4 hat4 (g := (mkF m 9 #[rv a1, rv r, .unset] [(.int (0 : Int32)), (.ref gA), (.int (0 : Int32))])) rfl rfl (hb hby d7_9) _ k)
  show Goes p e below _ (sF T2 m 10 #[rv a1, rv r, .unset] [(.ref x0), (.int (0 : Int32))])
  obtain ⟨cl5, Ar5, q5, S5, N_5, H5, G5⟩ := id V_x0
  refine Goes.step ?_ (fun _ k => X2.arraylength hx (by rw [e2]; exact Ar5.1) (State.isArrayOf_alike hZ.alike Ar5.2.1) (g := (mkF m 10 #[rv a1, rv r, .unset] [(.ref x0), (.int (0 : Int32))])) rfl rfl (hb hby d7_10) _ k)
  rw [len_of S5 N_5]
  show Goes p e below _ (sF T2 m 11 #[rv a1, rv r, .unset] [(.int (1 : Int32)), (.int (0 : Int32))])
  refine Goes.step ?_ (fun _ k => XS.icmpYes X2.here hx rfl (pc0 := 11) (pc' := 52) rfl (hb hby d7_11) rfl (feq (by decide : ¬ ((0 : Int32) = (1 : Int32)))).2 (by decide) (by decide) k)
  show Goes p e below _ (sF T2 m 52 #[rv a1, rv r, .unset] [])
  refine Goes.step ?_ (fun _ k => XS.iconst X2.here hx rfl (hb hby d7_52) k)
  show Goes p e below _ (sF T2 m 53 #[rv a1, rv r, .unset] [(.int (0 : Int32))])
  refine Goes.step ?_ (fun _ k => XS.istoreN X2.here hx rfl (hb hby d7_53) rfl (l' := #[rv a1, rv r, iv (0 : Int32)]) rfl k)
  show Goes p e below _ (sF T2 m 54 #[rv a1, rv r, iv (0 : Int32)] [])
  refine Goes.step ?_ (fun _ k => XS.iloadN X2.here hx rfl (hb hby d7_54) rfl  k)
  show Goes p e below _ (sF T2 m 55 #[rv a1, rv r, iv (0 : Int32)] [(.int (0 : Int32))])
  refine Goes.step ?_ (fun _ k => XS.aloadN X2.here hx rfl (hb hby d7_55) rfl rfl k)
  show Goes p e below _ (sF T2 m 56 #[rv a1, rv r, iv (0 : Int32)] [(.ref a1), (.int (0 : Int32))])
  obtain ⟨T6, X6, e6, st6⟩ := getF X2 hx hZ hown (host := "") (Or.inl (hw _ (List.mem_of_getElem? (i := 12) rfl))) Via.refl e2 F_columns (g := (mkF m 56 #[rv a1, rv r, iv (0 : Int32)] [(.ref a1), (.int (0 : Int32))])) rfl rfl (hb hby d7_56)
  refine Goes.step ?_ st6
  show Goes p e below _ (sF T6 m 59 #[rv a1, rv r, iv (0 : Int32)] [(.ref gA), (.int (0 : Int32))])
  obtain ⟨cl7, Ar7, q7, S7, N_7, H7, G7⟩ := id V_gA
  refine Goes.step ?_ (fun _ k => X6.arraylength hx (by rw [e6]; exact Ar7.1) (State.isArrayOf_alike hZ.alike Ar7.2.1) (g := (mkF m 59 #[rv a1, rv r, iv (0 : Int32)] [(.ref gA), (.int (0 : Int32))])) rfl rfl (hb hby d7_59) _ k)
  rw [len_of S7 N_7]
  show Goes p e below _ (sF T6 m 60 #[rv a1, rv r, iv (0 : Int32)] [(.int (3 : Int32)), (.int (0 : Int32))])
  refine Goes.step ?_ (fun _ k => XS.icmpNo X6.here hx rfl (hb hby d7_60) rfl (tlt (by decide : (0 : Int32) < (3 : Int32))).2.1 k)
  show Goes p e below _ (sF T6 m 63 #[rv a1, rv r, iv (0 : Int32)] [])
  refine Goes.step ?_ (fun _ k => XS.aloadN X6.here hx rfl (hb hby d7_63) rfl rfl k)
  show Goes p e below _ (sF T6 m 64 #[rv a1, rv r, iv (0 : Int32)] [(.ref a1)])
  obtain ⟨T8, X8, e8, st8⟩ := getF X6 hx hZ hown (host := "") (Or.inl (hw _ (List.mem_of_getElem? (i := 12) rfl))) Via.refl e6 F_columns (g := (mkF m 64 #[rv a1, rv r, iv (0 : Int32)] [(.ref a1)])) rfl rfl (hb hby d7_64)
  refine Goes.step ?_ st8
  show Goes p e below _ (sF T8 m 67 #[rv a1, rv r, iv (0 : Int32)] [(.ref gA)])
  refine Goes.step ?_ (fun _ k => XS.iloadN X8.here hx rfl (hb hby d7_67) rfl  k)
  show Goes p e below _ (sF T8 m 68 #[rv a1, rv r, iv (0 : Int32)] [(.int (0 : Int32)), (.ref gA)])
  obtain ⟨cl9, Ar9, q9, S9, N_9, H9, G9⟩ := id V_gA
  have hin10 : ¬ ((0 : Int32) < 0 ∨ cl9.slots.size ≤ ((0 : Int32)).toNatClampNeg) := inb_of S9 ⟨by decide, by decide⟩
  have hat10 : cl9.slots[((0 : Int32)).toNatClampNeg]? = some (.ref x0) := H9.at hin10 rfl
  refine Goes.step ?_ (fun _ k => X8.aaload hx (j := (0 : Int32)) (v := (.ref x0)) (by rw [e8]; exact Ar9.1) (State.isArrayOf_alike hZ.alike Ar9.2.1) rfl Ar9.2.2 hin10 hat10 (g := (mkF m 68 #[rv a1, rv r, iv (0 : Int32)] [(.int (0 : Int32)), (.ref gA)])) rfl rfl (hb hby d7_68) _ k)
  show Goes p e below _ (sF T8 m 69 #[rv a1, rv r, iv (0 : Int32)] [(.ref x0)])
  refine Goes.step ?_ (fun _ k => XS.aloadN X8.here hx rfl (hb hby d7_69) rfl rfl k)
  show Goes p e below _ (sF T8 m 70 #[rv a1, rv r, iv (0 : Int32)] [(.ref a1), (.ref x0)])
  obtain ⟨T11, X11, e11, st11⟩ := getF X8 hx hZ hown (host := "") (Or.inl (hw _ (List.mem_of_getElem? (i := 19) rfl))) Via.refl e8 F_size (g := (mkF m 70 #[rv a1, rv r, iv (0 : Int32)] [(.ref a1), (.ref x0)])) rfl rfl (hb hby d7_70)
  refine Goes.step ?_ st11
  show Goes p e below _ (sF T11 m 73 #[rv a1, rv r, iv (0 : Int32)] [(.int (0 : Int32)), (.ref x0)])
  refine Goes.step ?_ (fun _ k => XS.aloadN X11.here hx rfl (hb hby d7_73) rfl rfl k)
  show Goes p e below _ (sF T11 m 74 #[rv a1, rv r, iv (0 : Int32)] [(.ref r), (.int (0 : Int32)), (.ref x0)])
  refine Goes.step ?_ (fun _ k => XS.iloadN X11.here hx rfl (hb hby d7_74) rfl  k)
  show Goes p e below _ (sF T11 m 75 #[rv a1, rv r, iv (0 : Int32)] [(.int (0 : Int32)), (.ref r), (.int (0 : Int32)), (.ref x0)])
  obtain ⟨cl12, Ar12, q12, S12, N_12, H12, G12⟩ := id V_r
  have hin13 : ¬ ((0 : Int32) < 0 ∨ cl12.slots.size ≤ ((0 : Int32)).toNatClampNeg) := inb_of S12 ⟨by decide, by decide⟩
  have hat13 : cl12.slots[((0 : Int32)).toNatClampNeg]? = some (.int y0) := H12.at hin13 rfl
  refine Goes.step ?_ (fun _ k => X11.iaload hx (j := (0 : Int32)) (v := (.int y0)) (by rw [e11]; exact Ar12.1) (State.isArrayOf_alike hZ.alike Ar12.2.1) Ar12.2.2 hin13 hat13 (g := (mkF m 75 #[rv a1, rv r, iv (0 : Int32)] [(.int (0 : Int32)), (.ref r), (.int (0 : Int32)), (.ref x0)])) rfl rfl (hb hby d7_75) _ k)
  show Goes p e below _ (sF T11 m 76 #[rv a1, rv r, iv (0 : Int32)] [(.int y0), (.int (0 : Int32)), (.ref x0)])
  obtain ⟨cl14, Ar14, q14, S14, N_14, H14, G14⟩ := id V_x0
  have hin15 : ¬ ((0 : Int32) < 0 ∨ cl14.slots.size ≤ ((0 : Int32)).toNatClampNeg) := inb_of S14 ⟨by decide, by decide⟩
  obtain ⟨T15, h15, X15, e15, W15, st15⟩ := stI X11 hx hZ e11 Ar14 (j := (0 : Int32)) hin15 (g := (mkF m 76 #[rv a1, rv r, iv (0 : Int32)] [(.int y0), (.int (0 : Int32)), (.ref x0)])) rfl rfl (hb hby d7_76)
  have V_15 : Arv Z h15 x0 kx0 .int (1 : Int32) [(.int y0)] (.int (0 : Int32)) := Arv.set Ar14 q14 S14 N_14 H14 G14 rfl W15 0 rfl (Nat.le_of_ble_eq_true rfl)
  have Zs15 : n0 ≤ h15.size := Nat.le_trans Z0 (Keep.of_wr W15).1
  have N15 := Fr.snoc X15 N0 g_x0
  refine Goes.step ?_ st15
  show Goes p e below _ (sF T15 m 77 #[rv a1, rv r, iv (0 : Int32)] [])
  refine Goes.step ?_ (fun _ k => XS.iinc X15.here hx rfl (hb hby d7_77) rfl (l' := #[rv a1, rv r, iv ((0 : Int32) + (1 : Int32))]) rfl k)
  show Goes p e below _ (sF T15 m 80 #[rv a1, rv r, iv ((0 : Int32) + (1 : Int32))] [])
  rw [show ((0 : Int32) + (1 : Int32)) = (1 : Int32) from by decide]
  show Goes p e below _ (sF T15 m 80 #[rv a1, rv r, iv (1 : Int32)] [])
  refine Goes.step ?_ (fun _ k => XS.goto X15.here hx rfl (pc0 := 80) (pc' := 54) rfl (hb hby d7_80) (by decide) (by decide) k)
  show Goes p e below _ (sF T15 m 54 #[rv a1, rv r, iv (1 : Int32)] [])
  refine Goes.step ?_ (fun _ k => XS.iloadN X15.here hx rfl (hb hby d7_54) rfl  k)
  show Goes p e below _ (sF T15 m 55 #[rv a1, rv r, iv (1 : Int32)] [(.int (1 : Int32))])
  refine Goes.step ?_ (fun _ k => XS.aloadN X15.here hx rfl (hb hby d7_55) rfl rfl k)
  show Goes p e below _ (sF T15 m 56 #[rv a1, rv r, iv (1 : Int32)] [(.ref a1), (.int (1 : Int32))])
  have F_a1_columns_16 := (F_columns.other W15 (Or.inl ne_a1_x0))
  obtain ⟨T17, X17, e17, st17⟩ := getF X15 hx hZ hown (host := "") (Or.inl (hw _ (List.mem_of_getElem? (i := 12) rfl))) Via.refl e15 F_a1_columns_16 (g := (mkF m 56 #[rv a1, rv r, iv (1 : Int32)] [(.ref a1), (.int (1 : Int32))])) rfl rfl (hb hby d7_56)
  refine Goes.step ?_ st17
  show Goes p e below _ (sF T17 m 59 #[rv a1, rv r, iv (1 : Int32)] [(.ref gA), (.int (1 : Int32))])
  have V_gA_18 := (V_gA.other W15 ne_gA_x0)
  obtain ⟨cl19, Ar19, q19, S19, N_19, H19, G19⟩ := id V_gA_18
  refine Goes.step ?_ (fun _ k => X17.arraylength hx (by rw [e17]; exact Ar19.1) (State.isArrayOf_alike hZ.alike Ar19.2.1) (g := (mkF m 59 #[rv a1, rv r, iv (1 : Int32)] [(.ref gA), (.int (1 : Int32))])) rfl rfl (hb hby d7_59) _ k)
  rw [len_of S19 N_19]
  show Goes p e below _ (sF T17 m 60 #[rv a1, rv r, iv (1 : Int32)] [(.int (3 : Int32)), (.int (1 : Int32))])
  refine Goes.step ?_ (fun _ k => XS.icmpNo X17.here hx rfl (hb hby d7_60) rfl (tlt (by decide : (1 : Int32) < (3 : Int32))).2.1 k)
  show Goes p e below _ (sF T17 m 63 #[rv a1, rv r, iv (1 : Int32)] [])
  refine Goes.step ?_ (fun _ k => XS.aloadN X17.here hx rfl (hb hby d7_63) rfl rfl k)
  show Goes p e below _ (sF T17 m 64 #[rv a1, rv r, iv (1 : Int32)] [(.ref a1)])
  obtain ⟨T20, X20, e20, st20⟩ := getF X17 hx hZ hown (host := "") (Or.inl (hw _ (List.mem_of_getElem? (i := 12) rfl))) Via.refl e17 F_a1_columns_16 (g := (mkF m 64 #[rv a1, rv r, iv (1 : Int32)] [(.ref a1)])) rfl rfl (hb hby d7_64)
  refine Goes.step ?_ st20
  show Goes p e below _ (sF T20 m 67 #[rv a1, rv r, iv (1 : Int32)] [(.ref gA)])
  refine Goes.step ?_ (fun _ k => XS.iloadN X20.here hx rfl (hb hby d7_67) rfl  k)
  show Goes p e below _ (sF T20 m 68 #[rv a1, rv r, iv (1 : Int32)] [(.int (1 : Int32)), (.ref gA)])
  obtain ⟨cl21, Ar21, q21, S21, N_21, H21, G21⟩ := id V_gA_18
  have hin22 : ¬ ((1 : Int32) < 0 ∨ cl21.slots.size ≤ ((1 : Int32)).toNatClampNeg) := inb_of S21 ⟨by decide, by decide⟩
  have hat22 : cl21.slots[((1 : Int32)).toNatClampNeg]? = some (.ref x1) := H21.at hin22 rfl
  refine Goes.step ?_ (fun _ k => X20.aaload hx (j := (1 : Int32)) (v := (.ref x1)) (by rw [e20]; exact Ar21.1) (State.isArrayOf_alike hZ.alike Ar21.2.1) rfl Ar21.2.2 hin22 hat22 (g := (mkF m 68 #[rv a1, rv r, iv (1 : Int32)] [(.int (1 : Int32)), (.ref gA)])) rfl rfl (hb hby d7_68) _ k)
  show Goes p e below _ (sF T20 m 69 #[rv a1, rv r, iv (1 : Int32)] [(.ref x1)])
  refine Goes.step ?_ (fun _ k => XS.aloadN X20.here hx rfl (hb hby d7_69) rfl rfl k)
  show Goes p e below _ (sF T20 m 70 #[rv a1, rv r, iv (1 : Int32)] [(.ref a1), (.ref x1)])
  have F_a1_size_23 := (F_size.other W15 (Or.inl ne_a1_x0))
  obtain ⟨T24, X24, e24, st24⟩ := getF X20 hx hZ hown (host := "") (Or.inl (hw _ (List.mem_of_getElem? (i := 19) rfl))) Via.refl e20 F_a1_size_23 (g := (mkF m 70 #[rv a1, rv r, iv (1 : Int32)] [(.ref a1), (.ref x1)])) rfl rfl (hb hby d7_70)
  refine Goes.step ?_ st24
  show Goes p e below _ (sF T24 m 73 #[rv a1, rv r, iv (1 : Int32)] [(.int (0 : Int32)), (.ref x1)])
  refine Goes.step ?_ (fun _ k => XS.aloadN X24.here hx rfl (hb hby d7_73) rfl rfl k)
  show Goes p e below _ (sF T24 m 74 #[rv a1, rv r, iv (1 : Int32)] [(.ref r), (.int (0 : Int32)), (.ref x1)])
  refine Goes.step ?_ (fun _ k => XS.iloadN X24.here hx rfl (hb hby d7_74) rfl  k)
  show Goes p e below _ (sF T24 m 75 #[rv a1, rv r, iv (1 : Int32)] [(.int (1 : Int32)), (.ref r), (.int (0 : Int32)), (.ref x1)])
  have V_r_25 := (V_r.other W15 ne_r_x0)
  obtain ⟨cl26, Ar26, q26, S26, N_26, H26, G26⟩ := id V_r_25
  have hin27 : ¬ ((1 : Int32) < 0 ∨ cl26.slots.size ≤ ((1 : Int32)).toNatClampNeg) := inb_of S26 ⟨by decide, by decide⟩
  have hat27 : cl26.slots[((1 : Int32)).toNatClampNeg]? = some (.int y1) := H26.at hin27 rfl
  refine Goes.step ?_ (fun _ k => X24.iaload hx (j := (1 : Int32)) (v := (.int y1)) (by rw [e24]; exact Ar26.1) (State.isArrayOf_alike hZ.alike Ar26.2.1) Ar26.2.2 hin27 hat27 (g := (mkF m 75 #[rv a1, rv r, iv (1 : Int32)] [(.int (1 : Int32)), (.ref r), (.int (0 : Int32)), (.ref x1)])) rfl rfl (hb hby d7_75) _ k)
  show Goes p e below _ (sF T24 m 76 #[rv a1, rv r, iv (1 : Int32)] [(.int y1), (.int (0 : Int32)), (.ref x1)])
  have V_x1_28 := (V_x1.other W15 (Ne.symm ne_x0_x1))
  obtain ⟨cl29, Ar29, q29, S29, N_29, H29, G29⟩ := id V_x1_28
  have hin30 : ¬ ((0 : Int32) < 0 ∨ cl29.slots.size ≤ ((0 : Int32)).toNatClampNeg) := inb_of S29 ⟨by decide, by decide⟩
  obtain ⟨T30, h30, X30, e30, W30, st30⟩ := stI X24 hx hZ e24 Ar29 (j := (0 : Int32)) hin30 (g := (mkF m 76 #[rv a1, rv r, iv (1 : Int32)] [(.int y1), (.int (0 : Int32)), (.ref x1)])) rfl rfl (hb hby d7_76)
  have V_30 : Arv Z h30 x1 kx1 .int (1 : Int32) [(.int y1)] (.int (0 : Int32)) := Arv.set Ar29 q29 S29 N_29 H29 G29 rfl W30 0 rfl (Nat.le_of_ble_eq_true rfl)
  have Zs30 : n0 ≤ h30.size := Nat.le_trans Zs15 (Keep.of_wr W30).1
  have N30 := Fr.snoc X30 N15 g_x1
  refine Goes.step ?_ st30
  show Goes p e below _ (sF T30 m 77 #[rv a1, rv r, iv (1 : Int32)] [])
  refine Goes.step ?_ (fun _ k => XS.iinc X30.here hx rfl (hb hby d7_77) rfl (l' := #[rv a1, rv r, iv ((1 : Int32) + (1 : Int32))]) rfl k)
  show Goes p e below _ (sF T30 m 80 #[rv a1, rv r, iv ((1 : Int32) + (1 : Int32))] [])
  rw [show ((1 : Int32) + (1 : Int32)) = (2 : Int32) from by decide]
  show Goes p e below _ (sF T30 m 80 #[rv a1, rv r, iv (2 : Int32)] [])
  refine Goes.step ?_ (fun _ k => XS.goto X30.here hx rfl (pc0 := 80) (pc' := 54) rfl (hb hby d7_80) (by decide) (by decide) k)
  show Goes p e below _ (sF T30 m 54 #[rv a1, rv r, iv (2 : Int32)] [])
  refine Goes.step ?_ (fun _ k => XS.iloadN X30.here hx rfl (hb hby d7_54) rfl  k)
  show Goes p e below _ (sF T30 m 55 #[rv a1, rv r, iv (2 : Int32)] [(.int (2 : Int32))])
  refine Goes.step ?_ (fun _ k => XS.aloadN X30.here hx rfl (hb hby d7_55) rfl rfl k)
  show Goes p e below _ (sF T30 m 56 #[rv a1, rv r, iv (2 : Int32)] [(.ref a1), (.int (2 : Int32))])
  have F_a1_columns_31 := (F_a1_columns_16.other W30 (Or.inl ne_a1_x1))
  obtain ⟨T32, X32, e32, st32⟩ := getF X30 hx hZ hown (host := "") (Or.inl (hw _ (List.mem_of_getElem? (i := 12) rfl))) Via.refl e30 F_a1_columns_31 (g := (mkF m 56 #[rv a1, rv r, iv (2 : Int32)] [(.ref a1), (.int (2 : Int32))])) rfl rfl (hb hby d7_56)
  refine Goes.step ?_ st32
  show Goes p e below _ (sF T32 m 59 #[rv a1, rv r, iv (2 : Int32)] [(.ref gA), (.int (2 : Int32))])
  have V_gA_33 := (V_gA_18.other W30 ne_gA_x1)
  obtain ⟨cl34, Ar34, q34, S34, N_34, H34, G34⟩ := id V_gA_33
  refine Goes.step ?_ (fun _ k => X32.arraylength hx (by rw [e32]; exact Ar34.1) (State.isArrayOf_alike hZ.alike Ar34.2.1) (g := (mkF m 59 #[rv a1, rv r, iv (2 : Int32)] [(.ref gA), (.int (2 : Int32))])) rfl rfl (hb hby d7_59) _ k)
  rw [len_of S34 N_34]
  show Goes p e below _ (sF T32 m 60 #[rv a1, rv r, iv (2 : Int32)] [(.int (3 : Int32)), (.int (2 : Int32))])
  refine Goes.step ?_ (fun _ k => XS.icmpNo X32.here hx rfl (hb hby d7_60) rfl (tlt (by decide : (2 : Int32) < (3 : Int32))).2.1 k)
  show Goes p e below _ (sF T32 m 63 #[rv a1, rv r, iv (2 : Int32)] [])
  refine Goes.step ?_ (fun _ k => XS.aloadN X32.here hx rfl (hb hby d7_63) rfl rfl k)
  show Goes p e below _ (sF T32 m 64 #[rv a1, rv r, iv (2 : Int32)] [(.ref a1)])
  obtain ⟨T35, X35, e35, st35⟩ := getF X32 hx hZ hown (host := "") (Or.inl (hw _ (List.mem_of_getElem? (i := 12) rfl))) Via.refl e32 F_a1_columns_31 (g := (mkF m 64 #[rv a1, rv r, iv (2 : Int32)] [(.ref a1)])) rfl rfl (hb hby d7_64)
  refine Goes.step ?_ st35
  show Goes p e below _ (sF T35 m 67 #[rv a1, rv r, iv (2 : Int32)] [(.ref gA)])
  refine Goes.step ?_ (fun _ k => XS.iloadN X35.here hx rfl (hb hby d7_67) rfl  k)
  show Goes p e below _ (sF T35 m 68 #[rv a1, rv r, iv (2 : Int32)] [(.int (2 : Int32)), (.ref gA)])
  obtain ⟨cl36, Ar36, q36, S36, N_36, H36, G36⟩ := id V_gA_33
  have hin37 : ¬ ((2 : Int32) < 0 ∨ cl36.slots.size ≤ ((2 : Int32)).toNatClampNeg) := inb_of S36 ⟨by decide, by decide⟩
  have hat37 : cl36.slots[((2 : Int32)).toNatClampNeg]? = some (.ref x2) := H36.at hin37 rfl
  refine Goes.step ?_ (fun _ k => X35.aaload hx (j := (2 : Int32)) (v := (.ref x2)) (by rw [e35]; exact Ar36.1) (State.isArrayOf_alike hZ.alike Ar36.2.1) rfl Ar36.2.2 hin37 hat37 (g := (mkF m 68 #[rv a1, rv r, iv (2 : Int32)] [(.int (2 : Int32)), (.ref gA)])) rfl rfl (hb hby d7_68) _ k)
  show Goes p e below _ (sF T35 m 69 #[rv a1, rv r, iv (2 : Int32)] [(.ref x2)])
  refine Goes.step ?_ (fun _ k => XS.aloadN X35.here hx rfl (hb hby d7_69) rfl rfl k)
  show Goes p e below _ (sF T35 m 70 #[rv a1, rv r, iv (2 : Int32)] [(.ref a1), (.ref x2)])
  have F_a1_size_38 := (F_a1_size_23.other W30 (Or.inl ne_a1_x1))
  obtain ⟨T39, X39, e39, st39⟩ := getF X35 hx hZ hown (host := "") (Or.inl (hw _ (List.mem_of_getElem? (i := 19) rfl))) Via.refl e35 F_a1_size_38 (g := (mkF m 70 #[rv a1, rv r, iv (2 : Int32)] [(.ref a1), (.ref x2)])) rfl rfl (hb hby d7_70)
  refine Goes.step ?_ st39
  show Goes p e below _ (sF T39 m 73 #[rv a1, rv r, iv (2 : Int32)] [(.int (0 : Int32)), (.ref x2)])
  refine Goes.step ?_ (fun _ k => XS.aloadN X39.here hx rfl (hb hby d7_73) rfl rfl k)
  show Goes p e below _ (sF T39 m 74 #[rv a1, rv r, iv (2 : Int32)] [(.ref r), (.int (0 : Int32)), (.ref x2)])
  refine Goes.step ?_ (fun _ k => XS.iloadN X39.here hx rfl (hb hby d7_74) rfl  k)
  show Goes p e below _ (sF T39 m 75 #[rv a1, rv r, iv (2 : Int32)] [(.int (2 : Int32)), (.ref r), (.int (0 : Int32)), (.ref x2)])
  have V_r_40 := (V_r_25.other W30 ne_r_x1)
  obtain ⟨cl41, Ar41, q41, S41, N_41, H41, G41⟩ := id V_r_40
  have hin42 : ¬ ((2 : Int32) < 0 ∨ cl41.slots.size ≤ ((2 : Int32)).toNatClampNeg) := inb_of S41 ⟨by decide, by decide⟩
  have hat42 : cl41.slots[((2 : Int32)).toNatClampNeg]? = some (.int y2) := H41.at hin42 rfl
  refine Goes.step ?_ (fun _ k => X39.iaload hx (j := (2 : Int32)) (v := (.int y2)) (by rw [e39]; exact Ar41.1) (State.isArrayOf_alike hZ.alike Ar41.2.1) Ar41.2.2 hin42 hat42 (g := (mkF m 75 #[rv a1, rv r, iv (2 : Int32)] [(.int (2 : Int32)), (.ref r), (.int (0 : Int32)), (.ref x2)])) rfl rfl (hb hby d7_75) _ k)
  show Goes p e below _ (sF T39 m 76 #[rv a1, rv r, iv (2 : Int32)] [(.int y2), (.int (0 : Int32)), (.ref x2)])
  have V_x2_43 := ((V_x2.other W15 (Ne.symm ne_x0_x2)).other W30 (Ne.symm ne_x1_x2))
  obtain ⟨cl44, Ar44, q44, S44, N_44, H44, G44⟩ := id V_x2_43
  have hin45 : ¬ ((0 : Int32) < 0 ∨ cl44.slots.size ≤ ((0 : Int32)).toNatClampNeg) := inb_of S44 ⟨by decide, by decide⟩
  obtain ⟨T45, h45, X45, e45, W45, st45⟩ := stI X39 hx hZ e39 Ar44 (j := (0 : Int32)) hin45 (g := (mkF m 76 #[rv a1, rv r, iv (2 : Int32)] [(.int y2), (.int (0 : Int32)), (.ref x2)])) rfl rfl (hb hby d7_76)
  have V_45 : Arv Z h45 x2 kx2 .int (1 : Int32) [(.int y2)] (.int (0 : Int32)) := Arv.set Ar44 q44 S44 N_44 H44 G44 rfl W45 0 rfl (Nat.le_of_ble_eq_true rfl)
  have Zs45 : n0 ≤ h45.size := Nat.le_trans Zs30 (Keep.of_wr W45).1
  have N45 := Fr.snoc X45 N30 g_x2
  refine Goes.step ?_ st45
  show Goes p e below _ (sF T45 m 77 #[rv a1, rv r, iv (2 : Int32)] [])
  refine Goes.step ?_ (fun _ k => XS.iinc X45.here hx rfl (hb hby d7_77) rfl (l' := #[rv a1, rv r, iv ((2 : Int32) + (1 : Int32))]) rfl k)
  show Goes p e below _ (sF T45 m 80 #[rv a1, rv r, iv ((2 : Int32) + (1 : Int32))] [])
  rw [show ((2 : Int32) + (1 : Int32)) = (3 : Int32) from by decide]
  show Goes p e below _ (sF T45 m 80 #[rv a1, rv r, iv (3 : Int32)] [])
  refine Goes.step ?_ (fun _ k => XS.goto X45.here hx rfl (pc0 := 80) (pc' := 54) rfl (hb hby d7_80) (by decide) (by decide) k)
  show Goes p e below _ (sF T45 m 54 #[rv a1, rv r, iv (3 : Int32)] [])
  refine Goes.step ?_ (fun _ k => XS.iloadN X45.here hx rfl (hb hby d7_54) rfl  k)
  show Goes p e below _ (sF T45 m 55 #[rv a1, rv r, iv (3 : Int32)] [(.int (3 : Int32))])
  refine Goes.step ?_ (fun _ k => XS.aloadN X45.here hx rfl (hb hby d7_55) rfl rfl k)
  show Goes p e below _ (sF T45 m 56 #[rv a1, rv r, iv (3 : Int32)] [(.ref a1), (.int (3 : Int32))])
  have F_a1_columns_46 := (F_a1_columns_31.other W45 (Or.inl ne_a1_x2))
  obtain ⟨T47, X47, e47, st47⟩ := getF X45 hx hZ hown (host := "") (Or.inl (hw _ (List.mem_of_getElem? (i := 12) rfl))) Via.refl e45 F_a1_columns_46 (g := (mkF m 56 #[rv a1, rv r, iv (3 : Int32)] [(.ref a1), (.int (3 : Int32))])) rfl rfl (hb hby d7_56)
  refine Goes.step ?_ st47
  show Goes p e below _ (sF T47 m 59 #[rv a1, rv r, iv (3 : Int32)] [(.ref gA), (.int (3 : Int32))])
  have V_gA_48 := (V_gA_33.other W45 ne_gA_x2)
  obtain ⟨cl49, Ar49, q49, S49, N_49, H49, G49⟩ := id V_gA_48
  refine Goes.step ?_ (fun _ k => X47.arraylength hx (by rw [e47]; exact Ar49.1) (State.isArrayOf_alike hZ.alike Ar49.2.1) (g := (mkF m 59 #[rv a1, rv r, iv (3 : Int32)] [(.ref gA), (.int (3 : Int32))])) rfl rfl (hb hby d7_59) _ k)
  rw [len_of S49 N_49]
  show Goes p e below _ (sF T47 m 60 #[rv a1, rv r, iv (3 : Int32)] [(.int (3 : Int32)), (.int (3 : Int32))])
  refine Goes.step ?_ (fun _ k => XS.icmpYes X47.here hx rfl (pc0 := 60) (pc' := 83) rfl (hb hby d7_60) rfl (flt (by decide : ¬ ((3 : Int32) < (3 : Int32)))).2.1 (by decide) (by decide) k)
  show Goes p e below _ (sF T47 m 83 #[rv a1, rv r, iv (3 : Int32)] [])
  refine Goes.step ?_ (fun _ k => XS.aloadN X47.here hx rfl (hb hby d7_83) rfl rfl k)
  show Goes p e below _ (sF T47 m 84 #[rv a1, rv r, iv (3 : Int32)] [(.ref a1)])
  refine Goes.step ?_ (fun _ k => XS.dup X47.here hx rfl (hb hby d7_84) rfl rfl k)
  show Goes p e below _ (sF T47 m 85 #[rv a1, rv r, iv (3 : Int32)] [(.ref a1), (.ref a1)])
  have F_a1_size_50 := (F_a1_size_38.other W45 (Or.inl ne_a1_x2))
  obtain ⟨T51, X51, e51, st51⟩ := getF X47 hx hZ hown (host := "") (Or.inl (hw _ (List.mem_of_getElem? (i := 19) rfl))) Via.refl e47 F_a1_size_50 (g := (mkF m 85 #[rv a1, rv r, iv (3 : Int32)] [(.ref a1), (.ref a1)])) rfl rfl (hb hby d7_85)
  refine Goes.step ?_ st51
  show Goes p e below _ (sF T51 m 88 #[rv a1, rv r, iv (3 : Int32)] [(.int (0 : Int32)), (.ref a1)])
  refine Goes.step ?_ (fun _ k => XS.iconst X51.here hx rfl (hb hby d7_88) k)
  show Goes p e below _ (sF T51 m 89 #[rv a1, rv r, iv (3 : Int32)] [(.int (1 : Int32)), (.int (0 : Int32)), (.ref a1)])
  refine Goes.step ?_ (fun _ k => XS.iadd X51.here hx rfl (hb hby d7_89) rfl k)
  show Goes p e below _ (sF T51 m 90 #[rv a1, rv r, iv (3 : Int32)] [(.int ((0 : Int32) + (1 : Int32))), (.ref a1)])
  rw [show ((0 : Int32) + (1 : Int32)) = (1 : Int32) from by decide]
  show Goes p e below _ (sF T51 m 90 #[rv a1, rv r, iv (3 : Int32)] [(.int (1 : Int32)), (.ref a1)])
  have E_a1_53 := (((E_a1.wr W15).wr W30).wr W45)
  obtain ⟨T52, h52, X52, e52, W52, st52⟩ := putF X51 hx hZ hown (host := "") (Or.inl (hw _ (List.mem_of_getElem? (i := 19) rfl))) Via.refl e51 F_a1_size_50 E_a1_53 (Or.inl (hw _ (List.mem_of_getElem? (i := 20) rfl))) (hw _ (List.mem_of_getElem? (i := 2) rfl)) (ty := .int) (by decide) rfl rfl (g := (mkF m 90 #[rv a1, rv r, iv (3 : Int32)] [(.int (1 : Int32)), (.ref a1)])) rfl rfl (hb hby d7_90)
  have Fw52 := F_a1_size_50.same W52
  have Zs52 : n0 ≤ h52.size := Nat.le_trans Zs45 (Keep.of_wr W52).1
  have N52 := Fr.snoc X52 N45 g_a1
  refine Goes.step ?_ st52
  show Goes p e below _ (sF T52 m 93 #[rv a1, rv r, iv (3 : Int32)] [])
  refine own_outV X52 hx hlk hret (hb hby d7_93) ?_ (by decide) (by decide)
  show QAdd3_0 Z a1 gA kA y0 y1 y2 x0 x1 x2 kx0 kx1 kx2 d0_0 d1_0 d2_0 h0 n0 _ T52.heap _
  rw [e52]
  exact ⟨rfl, N52, (((((Keep.refl h0 [a1, x0, x1, x2]).wr W15 (Or.inl (List.mem_of_getElem? (i := 1) rfl))).wr W30 (Or.inl (List.mem_of_getElem? (i := 2) rfl))).wr W45 (Or.inl (List.mem_of_getElem? (i := 3) rfl))).wr W52 (Or.inl (List.mem_of_getElem? (i := 0) rfl))), (F_a1_columns_46.other W52 (Or.inr (slot_ne (Or.inr (hw _ (List.mem_of_getElem? (i := 13) rfl))) (Or.inl (hw _ (List.mem_of_getElem? (i := 20) rfl))) (by decide) (t := (.array (.array .int))) (t' := .int) (by decide) (by decide)))), Fw52, (V_gA_48.other W52 (Ne.symm ne_a1_gA)), (((V_15.other W30 ne_x0_x1).other W45 ne_x0_x2).other W52 (Ne.symm ne_a1_x0)), ((((E_x0.wr W15).wr W30).wr W45).wr W52), ((V_30.other W45 ne_x1_x2).other W52 (Ne.symm ne_a1_x1)), ((((E_x1.wr W15).wr W30).wr W45).wr W52), (V_45.other W52 (Ne.symm ne_a1_x2)), ((((E_x2.wr W15).wr W30).wr W45).wr W52)⟩
def QAdd3_1 (Z : State) (a1 gA : Addr) (kA : ClassId) (y0 y1 y2 : Int32) (d0_0 : Int32) (d1_0 : Int32) (d2_0 : Int32) (h0 : Heap) (n0 : Nat) (v : Option Value) (h : Heap) (L : List Loc) : Prop := ∃ (z0 z1 z2 : Addr) (kz0 kz1 kz2 : ClassId), v = none ∧ Fr n0 L ∧ Keep h0 h [a1, gA] ∧ Fld Z h a1 "com/example/clio/clio/repository/Columns" "columns" "[[I" (.ref gA) ∧ Fld Z h a1 "com/example/clio/clio/repository/Columns" "size" "I" (.int (2 : Int32)) ∧ Arv Z h gA kA (.array .int) (3 : Int32) [(.ref z0), (.ref z1), (.ref z2)] .null ∧ Arv Z h z0 kz0 .int (2 : Int32) [(.int d0_0), (.int y0)] (.int (0 : Int32)) ∧ Exa Z h z0 "[I" ∧ Arv Z h z1 kz1 .int (2 : Int32) [(.int d1_0), (.int y1)] (.int (0 : Int32)) ∧ Exa Z h z1 "[I" ∧ Arv Z h z2 kz2 .int (2 : Int32) [(.int d2_0), (.int y2)] (.int (0 : Int32)) ∧ Exa Z h z2 "[I" ∧ h0.size ≤ z0 ∧ h0.size ≤ z1 ∧ h0.size ≤ z2 ∧ z0 ≠ z1 ∧ z0 ≠ z2 ∧ z1 ≠ z2
set_option maxRecDepth 65536 in
set_option maxHeartbeats 40000000 in
theorem rmAdd3_1 (l : Launch) (Z : State) (a0 : Array Value) (hw : ∀ d ∈ tables_1, d.before a0 Z = true) (ws : List Jvm.Cond) (a1 : Addr) (r : Addr) (gA : Addr) (kA : ClassId) (kr : ClassId) (y0 : Int32) (y1 : Int32) (y2 : Int32) (x0 : Addr) (x1 : Addr) (x2 : Addr) (kx0 : ClassId) (kx1 : ClassId) (kx2 : ClassId) (d0_0 : Int32) (d1_0 : Int32) (d2_0 : Int32) (h0 : Heap) (n0 : Nat) (Z0 : n0 ≤ h0.size) (F_columns : Fld Z h0 a1 "com/example/clio/clio/repository/Columns" "columns" "[[I" (.ref gA)) (F_size : Fld Z h0 a1 "com/example/clio/clio/repository/Columns" "size" "I" (.int (1 : Int32))) (E_a1 : Exa Z h0 a1 "com/example/clio/clio/repository/Columns") (V_gA : Arv Z h0 gA kA (.array .int) (3 : Int32) [(.ref x0), (.ref x1), (.ref x2)] .null) (Ov : OvrA Z kA .int "[I") (V_r : Arv Z h0 r kr .int (3 : Int32) [(.int y0), (.int y1), (.int y2)] (.int (0 : Int32))) (V_x0 : Arv Z h0 x0 kx0 .int (1 : Int32) [(.int d0_0)] (.int (0 : Int32))) (E_x0 : Exa Z h0 x0 "[I") (V_x1 : Arv Z h0 x1 kx1 .int (1 : Int32) [(.int d1_0)] (.int (0 : Int32))) (E_x1 : Exa Z h0 x1 "[I") (V_x2 : Arv Z h0 x2 kx2 .int (1 : Int32) [(.int d2_0)] (.int (0 : Int32))) (E_x2 : Exa Z h0 x2 "[I") (ne_a1_r : a1 ≠ r) (ne_a1_gA : a1 ≠ gA) (ne_a1_x0 : a1 ≠ x0) (ne_a1_x1 : a1 ≠ x1) (ne_a1_x2 : a1 ≠ x2) (ne_r_gA : r ≠ gA) (ne_r_x0 : r ≠ x0) (ne_r_x1 : r ≠ x1) (ne_r_x2 : r ≠ x2) (ne_gA_x0 : gA ≠ x0) (ne_gA_x1 : gA ≠ x1) (ne_gA_x2 : gA ≠ x2) (ne_x0_x1 : x0 ≠ x1) (ne_x0_x2 : x0 ≠ x2) (ne_x1_x2 : x1 ≠ x2) (g_a1 : n0 ≤ a1) (g_gA : n0 ≤ gA) (g_x0 : n0 ≤ x0) (g_x1 : n0 ≤ x1) (g_x2 : n0 ≤ x2) :
    MetFree l (⟨"com/example/clio/clio/repository/Columns", "add", "([I)V"⟩ : MethodName) (head1 (Jvm.Cond.code (⟨"com/example/clio/clio/repository/Columns", "add", "([I)V"⟩ : MethodName) prog_22_method_2_code 3 none :: ws) ({ frames := 2, cells := 3, slots := 12, locals := 34 } : Room)) (fun a U => a = #[(.ref a1), (.ref r)] ∧ Z.Warmed39 U.vm ∧ U.heap = h0) (fun _ _ _ _ _ => True) (fun _ U o U' => ∃ v L, o = .returned v ∧ QAdd3_1 Z a1 gA kA y0 y1 y2 d0_0 d1_0 d2_0 h0 n0 v U'.heap L ∧ FrameEnd U o U' L ({ frames := 2, cells := 3, slots := 12, locals := 34 } : Room).cells ({ frames := 2, cells := 3, slots := 12, locals := 34 } : Room).slots) := by
  refine MetFree.of_bodySF (plainFor_of_name pn_com_example_clio_clio_repository_Columns) hisR ?_
  intro p e s m args below meth c s₁ Bd hml0 hP hK
  obtain ⟨rfl, hZ, hh⟩ := hP
  have hx := Bd.exec
  have hby := Bd.bytes
  have hlk : meth.locks = false := BodyLoose.notSynchronized Bd
  have hml : c.maxLocals = 3 := hml0
  have hown : s.vm.findClass "com/example/clio/clio/repository/Columns" = some m.cls := findClass_of_methodNamed Bd.named
  have hnm := (name_of_methodNamed Bd.named Bd.method).1
  have X0 : Stand p l e ({ frames := 2, cells := 3, slots := 12, locals := 34 } : Room) s m #[(.ref a1), (.ref r)] below meth c s₁ [] 0 0 := Stand.of_body Bd
  have e0 : s₁.heap = h0 := by rw [← hh, Bd.state]; rfl
  have N0 := Fr.nil n0
  have hret := Bd.returns
  show Goes p e below (fun o U' => ∃ v L, o = .returned v ∧ QAdd3_1 Z a1 gA kA y0 y1 y2 d0_0 d1_0 d2_0 h0 n0 v U'.heap L ∧ FrameEnd s o U' L ({ frames := 2, cells := 3, slots := 12, locals := 34 } : Room).cells ({ frames := 2, cells := 3, slots := 12, locals := 34 } : Room).slots) (s₁.setTop (entryFrame m #[(.ref a1), (.ref r)] 3))
  refine Goes.step ?_ (fun _ k => castTop (ef_add m a1 r) k)
  show Goes p e below _ (sF s₁ m 0 #[rv a1, rv r, .unset] [])
  refine Goes.step ?_ (fun _ k => XS.aloadN X0.here hx rfl (hb hby d7_0) rfl rfl k)
  show Goes p e below _ (sF s₁ m 1 #[rv a1, rv r, .unset] [(.ref a1)])
  obtain ⟨T1, X1, e1, st1⟩ := getF X0 hx hZ hown (host := "") (Or.inl (hw _ (List.mem_of_getElem? (i := 19) rfl))) Via.refl e0 F_size (g := (mkF m 1 #[rv a1, rv r, .unset] [(.ref a1)])) rfl rfl (hb hby d7_1)
  refine Goes.step ?_ st1
  show Goes p e below _ (sF T1 m 4 #[rv a1, rv r, .unset] [(.int (1 : Int32))])
  refine Goes.step ?_ (fun _ k => XS.aloadN X1.here hx rfl (hb hby d7_4) rfl rfl k)
  show Goes p e below _ (sF T1 m 5 #[rv a1, rv r, .unset] [(.ref a1), (.int (1 : Int32))])
  obtain ⟨T2, X2, e2, st2⟩ := getF X1 hx hZ hown (host := "") (Or.inl (hw _ (List.mem_of_getElem? (i := 12) rfl))) Via.refl e1 F_columns (g := (mkF m 5 #[rv a1, rv r, .unset] [(.ref a1), (.int (1 : Int32))])) rfl rfl (hb hby d7_5)
  refine Goes.step ?_ st2
  show Goes p e below _ (sF T2 m 8 #[rv a1, rv r, .unset] [(.ref gA), (.int (1 : Int32))])
  refine Goes.step ?_ (fun _ k => XS.iconst X2.here hx rfl (hb hby d7_8) k)
  show Goes p e below _ (sF T2 m 9 #[rv a1, rv r, .unset] [(.int (0 : Int32)), (.ref gA), (.int (1 : Int32))])
  obtain ⟨cl3, Ar3, q3, S3, N_3, H3, G3⟩ := id V_gA
  have hin4 : ¬ ((0 : Int32) < 0 ∨ cl3.slots.size ≤ ((0 : Int32)).toNatClampNeg) := inb_of S3 ⟨by decide, by decide⟩
  have hat4 : cl3.slots[((0 : Int32)).toNatClampNeg]? = some (.ref x0) := H3.at hin4 rfl
  refine Goes.step ?_ (fun _ k => X2.aaload hx (j := (0 : Int32)) (v := (.ref x0)) (by rw [e2]; exact Ar3.1) (State.isArrayOf_alike hZ.alike Ar3.2.1) rfl Ar3.2.2 hin4 hat4 (g := (mkF m 9 #[rv a1, rv r, .unset] [(.int (0 : Int32)), (.ref gA), (.int (1 : Int32))])) rfl rfl (hb hby d7_9) _ k)
  show Goes p e below _ (sF T2 m 10 #[rv a1, rv r, .unset] [(.ref x0), (.int (1 : Int32))])
  obtain ⟨cl5, Ar5, q5, S5, N_5, H5, G5⟩ := id V_x0
  refine Goes.step ?_ (fun _ k => X2.arraylength hx (by rw [e2]; exact Ar5.1) (State.isArrayOf_alike hZ.alike Ar5.2.1) (g := (mkF m 10 #[rv a1, rv r, .unset] [(.ref x0), (.int (1 : Int32))])) rfl rfl (hb hby d7_10) _ k)
  rw [len_of S5 N_5]
  show Goes p e below _ (sF T2 m 11 #[rv a1, rv r, .unset] [(.int (1 : Int32)), (.int (1 : Int32))])
  refine Goes.step ?_ (fun _ k => XS.icmpNo X2.here hx rfl (hb hby d7_11) rfl (teq (by decide : (1 : Int32) = (1 : Int32))).2 k)
  show Goes p e below _ (sF T2 m 14 #[rv a1, rv r, .unset] [])
  refine Goes.step ?_ (fun _ k => XS.iconst X2.here hx rfl (hb hby d7_14) k)
  show Goes p e below _ (sF T2 m 15 #[rv a1, rv r, .unset] [(.int (0 : Int32))])
  refine Goes.step ?_ (fun _ k => XS.istoreN X2.here hx rfl (hb hby d7_15) rfl (l' := #[rv a1, rv r, iv (0 : Int32)]) rfl k)
  show Goes p e below _ (sF T2 m 16 #[rv a1, rv r, iv (0 : Int32)] [])
  refine Goes.step ?_ (fun _ k => XS.iloadN X2.here hx rfl (hb hby d7_16) rfl  k)
  show Goes p e below _ (sF T2 m 17 #[rv a1, rv r, iv (0 : Int32)] [(.int (0 : Int32))])
  refine Goes.step ?_ (fun _ k => XS.aloadN X2.here hx rfl (hb hby d7_17) rfl rfl k)
  show Goes p e below _ (sF T2 m 18 #[rv a1, rv r, iv (0 : Int32)] [(.ref a1), (.int (0 : Int32))])
  obtain ⟨T6, X6, e6, st6⟩ := getF X2 hx hZ hown (host := "") (Or.inl (hw _ (List.mem_of_getElem? (i := 12) rfl))) Via.refl e2 F_columns (g := (mkF m 18 #[rv a1, rv r, iv (0 : Int32)] [(.ref a1), (.int (0 : Int32))])) rfl rfl (hb hby d7_18)
  refine Goes.step ?_ st6
  show Goes p e below _ (sF T6 m 21 #[rv a1, rv r, iv (0 : Int32)] [(.ref gA), (.int (0 : Int32))])
  obtain ⟨cl7, Ar7, q7, S7, N_7, H7, G7⟩ := id V_gA
  refine Goes.step ?_ (fun _ k => X6.arraylength hx (by rw [e6]; exact Ar7.1) (State.isArrayOf_alike hZ.alike Ar7.2.1) (g := (mkF m 21 #[rv a1, rv r, iv (0 : Int32)] [(.ref gA), (.int (0 : Int32))])) rfl rfl (hb hby d7_21) _ k)
  rw [len_of S7 N_7]
  show Goes p e below _ (sF T6 m 22 #[rv a1, rv r, iv (0 : Int32)] [(.int (3 : Int32)), (.int (0 : Int32))])
  refine Goes.step ?_ (fun _ k => XS.icmpNo X6.here hx rfl (hb hby d7_22) rfl (tlt (by decide : (0 : Int32) < (3 : Int32))).2.1 k)
  show Goes p e below _ (sF T6 m 25 #[rv a1, rv r, iv (0 : Int32)] [])
  refine Goes.step ?_ (fun _ k => XS.aloadN X6.here hx rfl (hb hby d7_25) rfl rfl k)
  show Goes p e below _ (sF T6 m 26 #[rv a1, rv r, iv (0 : Int32)] [(.ref a1)])
  obtain ⟨T8, X8, e8, st8⟩ := getF X6 hx hZ hown (host := "") (Or.inl (hw _ (List.mem_of_getElem? (i := 12) rfl))) Via.refl e6 F_columns (g := (mkF m 26 #[rv a1, rv r, iv (0 : Int32)] [(.ref a1)])) rfl rfl (hb hby d7_26)
  refine Goes.step ?_ st8
  show Goes p e below _ (sF T8 m 29 #[rv a1, rv r, iv (0 : Int32)] [(.ref gA)])
  refine Goes.step ?_ (fun _ k => XS.iloadN X8.here hx rfl (hb hby d7_29) rfl  k)
  show Goes p e below _ (sF T8 m 30 #[rv a1, rv r, iv (0 : Int32)] [(.int (0 : Int32)), (.ref gA)])
  refine Goes.step ?_ (fun _ k => XS.aloadN X8.here hx rfl (hb hby d7_30) rfl rfl k)
  show Goes p e below _ (sF T8 m 31 #[rv a1, rv r, iv (0 : Int32)] [(.ref a1), (.int (0 : Int32)), (.ref gA)])
  obtain ⟨T9, X9, e9, st9⟩ := getF X8 hx hZ hown (host := "") (Or.inl (hw _ (List.mem_of_getElem? (i := 12) rfl))) Via.refl e8 F_columns (g := (mkF m 31 #[rv a1, rv r, iv (0 : Int32)] [(.ref a1), (.int (0 : Int32)), (.ref gA)])) rfl rfl (hb hby d7_31)
  refine Goes.step ?_ st9
  show Goes p e below _ (sF T9 m 34 #[rv a1, rv r, iv (0 : Int32)] [(.ref gA), (.int (0 : Int32)), (.ref gA)])
  refine Goes.step ?_ (fun _ k => XS.iloadN X9.here hx rfl (hb hby d7_34) rfl  k)
  show Goes p e below _ (sF T9 m 35 #[rv a1, rv r, iv (0 : Int32)] [(.int (0 : Int32)), (.ref gA), (.int (0 : Int32)), (.ref gA)])
  obtain ⟨cl10, Ar10, q10, S10, N_10, H10, G10⟩ := id V_gA
  have hin11 : ¬ ((0 : Int32) < 0 ∨ cl10.slots.size ≤ ((0 : Int32)).toNatClampNeg) := inb_of S10 ⟨by decide, by decide⟩
  have hat11 : cl10.slots[((0 : Int32)).toNatClampNeg]? = some (.ref x0) := H10.at hin11 rfl
  refine Goes.step ?_ (fun _ k => X9.aaload hx (j := (0 : Int32)) (v := (.ref x0)) (by rw [e9]; exact Ar10.1) (State.isArrayOf_alike hZ.alike Ar10.2.1) rfl Ar10.2.2 hin11 hat11 (g := (mkF m 35 #[rv a1, rv r, iv (0 : Int32)] [(.int (0 : Int32)), (.ref gA), (.int (0 : Int32)), (.ref gA)])) rfl rfl (hb hby d7_35) _ k)
  show Goes p e below _ (sF T9 m 36 #[rv a1, rv r, iv (0 : Int32)] [(.ref x0), (.int (0 : Int32)), (.ref gA)])
  refine Goes.step ?_ (fun _ k => XS.aloadN X9.here hx rfl (hb hby d7_36) rfl rfl k)
  show Goes p e below _ (sF T9 m 37 #[rv a1, rv r, iv (0 : Int32)] [(.ref a1), (.ref x0), (.int (0 : Int32)), (.ref gA)])
  obtain ⟨T12, X12, e12, st12⟩ := getF X9 hx hZ hown (host := "") (Or.inl (hw _ (List.mem_of_getElem? (i := 19) rfl))) Via.refl e9 F_size (g := (mkF m 37 #[rv a1, rv r, iv (0 : Int32)] [(.ref a1), (.ref x0), (.int (0 : Int32)), (.ref gA)])) rfl rfl (hb hby d7_37)
  refine Goes.step ?_ st12
  show Goes p e below _ (sF T12 m 40 #[rv a1, rv r, iv (0 : Int32)] [(.int (1 : Int32)), (.ref x0), (.int (0 : Int32)), (.ref gA)])
  refine Goes.step ?_ (fun _ k => XS.iconst X12.here hx rfl (hb hby d7_40) k)
  show Goes p e below _ (sF T12 m 41 #[rv a1, rv r, iv (0 : Int32)] [(.int (2 : Int32)), (.int (1 : Int32)), (.ref x0), (.int (0 : Int32)), (.ref gA)])
  refine Goes.step ?_ (fun _ k => XS.imul X12.here hx rfl (hb hby d7_41) rfl k)
  show Goes p e below _ (sF T12 m 42 #[rv a1, rv r, iv (0 : Int32)] [(.int ((1 : Int32) * (2 : Int32))), (.ref x0), (.int (0 : Int32)), (.ref gA)])
  rw [show ((1 : Int32) * (2 : Int32)) = (2 : Int32) from by decide]
  show Goes p e below _ (sF T12 m 42 #[rv a1, rv r, iv (0 : Int32)] [(.int (2 : Int32)), (.ref x0), (.int (0 : Int32)), (.ref gA)])
  obtain ⟨_, _, ⟨T13, L13, k13, n13⟩, -, X13, ⟨Lc13, hQ13, l13, y13, z13⟩, st13⟩ := Jvm.LawKit.callS X12 hx (y := (⟨"java/util/Arrays", "copyOf", "([II)[I"⟩ : MethodName)) hown (mvT hZ (hw _ (List.mem_of_getElem? (i := 21) rfl))) (mvT hZ (hw _ (List.mem_of_getElem? (i := 22) rfl))) (mvT hZ (hw _ (List.mem_of_getElem? (i := 23) rfl))) (mvT hZ (hw _ (List.mem_of_getElem? (i := 24) rfl))) (by decide) (backOf (W := 2) (rmCp1_2 l Z a0 hw [] x0 d0_0 kx0 h0 n0 Z0 V_x0) hZ (hw _ (List.mem_of_getElem? (i := 24) rfl)) (hw _ (List.mem_of_getElem? (i := 23) rfl)) (by decide) (by decide)) (g := (mkF m 42 #[rv a1, rv r, iv (0 : Int32)] [(.int (2 : Int32)), (.ref x0), (.int (0 : Int32)), (.ref gA)])) rfl (by rw [hml]; rfl) (argsL := [(.ref x0), (.int (2 : Int32))]) (rest := [(.int (0 : Int32)), (.ref gA)]) (lenOf pd__28_5bII_29_5bI rfl) rfl (by show 2 * 0 + _ ≤ _; exact Nat.le_of_eq rfl) (hb hby d7_42) (fun _ _ => ⟨rfl, e12, (by decide : 0 + 1 ≤ _), (by decide : 0 + 4 ≤ _)⟩)
  dsimp only [Pt.U, Pt.locs, Pt.cells, Pt.slots] at X13 l13 y13 z13 st13 hQ13
  subst l13 y13 z13
  obtain ⟨r13, kr13, rfl, N13q, E13, gr13, Vr13, A13⟩ := hQ13
  have N13 := Fr.app N0 N13q
  refine Goes.step ?_ st13
  have g_r13 : n0 ≤ r13 := Nat.le_trans Z0 gr13
  have sz_r13 : h0.size ≤ r13 := Nat.le_trans (Keep.refl h0 [a1, gA]).1 gr13
  have ne_a1_r13 : a1 ≠ r13 := Nat.ne_of_lt (Nat.lt_of_lt_of_le F_columns.lt gr13)
  have ne_gA_r13 : gA ≠ r13 := Nat.ne_of_lt (Nat.lt_of_lt_of_le V_gA.lt gr13)
  have ne_r_r13 : r ≠ r13 := Nat.ne_of_lt (Nat.lt_of_lt_of_le V_r.lt gr13)
  have ne_x0_r13 : x0 ≠ r13 := Nat.ne_of_lt (Nat.lt_of_lt_of_le V_x0.lt gr13)
  have ne_x1_r13 : x1 ≠ r13 := Nat.ne_of_lt (Nat.lt_of_lt_of_le V_x1.lt gr13)
  have ne_x2_r13 : x2 ≠ r13 := Nat.ne_of_lt (Nat.lt_of_lt_of_le V_x2.lt gr13)
  have Zs13 : n0 ≤ T13.heap.size := Nat.le_trans Z0 E13.1
  show Goes p e below _ (sF T13 m 45 #[rv a1, rv r, iv (0 : Int32)] [(.ref r13), (.int (0 : Int32)), (.ref gA)])
  have V_gA_14 := (V_gA.ext E13)
  obtain ⟨cl15, Ar15, q15, S15, N_15, H15, G15⟩ := id V_gA_14
  have hin16 : ¬ ((0 : Int32) < 0 ∨ cl15.slots.size ≤ ((0 : Int32)).toNatClampNeg) := inb_of S15 ⟨by decide, by decide⟩
  obtain ⟨T16, h16, X16, e16, W16, st16⟩ := stR X13 hx hZ rfl Ar15 (j := (0 : Int32)) hin16 rfl (Sto.ofVA Ar15 q15 Ov (Ins.self A13)) (g := (mkF m 45 #[rv a1, rv r, iv (0 : Int32)] [(.ref r13), (.int (0 : Int32)), (.ref gA)])) rfl rfl (hb hby d7_45)
  have V_16 : Arv Z h16 gA kA (.array .int) (3 : Int32) [(.ref r13), (.ref x1), (.ref x2)] .null := Arv.set Ar15 q15 S15 N_15 H15 G15 rfl W16 0 rfl (Nat.le_of_ble_eq_true rfl)
  have Zs16 : n0 ≤ h16.size := Nat.le_trans Zs13 (Keep.of_wr W16).1
  have N16 := Fr.snoc X16 N13 g_gA
  refine Goes.step ?_ st16
  show Goes p e below _ (sF T16 m 46 #[rv a1, rv r, iv (0 : Int32)] [])
  refine Goes.step ?_ (fun _ k => XS.iinc X16.here hx rfl (hb hby d7_46) rfl (l' := #[rv a1, rv r, iv ((0 : Int32) + (1 : Int32))]) rfl k)
  show Goes p e below _ (sF T16 m 49 #[rv a1, rv r, iv ((0 : Int32) + (1 : Int32))] [])
  rw [show ((0 : Int32) + (1 : Int32)) = (1 : Int32) from by decide]
  show Goes p e below _ (sF T16 m 49 #[rv a1, rv r, iv (1 : Int32)] [])
  refine Goes.step ?_ (fun _ k => XS.goto X16.here hx rfl (pc0 := 49) (pc' := 16) rfl (hb hby d7_49) (by decide) (by decide) k)
  show Goes p e below _ (sF T16 m 16 #[rv a1, rv r, iv (1 : Int32)] [])
  refine Goes.step ?_ (fun _ k => XS.iloadN X16.here hx rfl (hb hby d7_16) rfl  k)
  show Goes p e below _ (sF T16 m 17 #[rv a1, rv r, iv (1 : Int32)] [(.int (1 : Int32))])
  refine Goes.step ?_ (fun _ k => XS.aloadN X16.here hx rfl (hb hby d7_17) rfl rfl k)
  show Goes p e below _ (sF T16 m 18 #[rv a1, rv r, iv (1 : Int32)] [(.ref a1), (.int (1 : Int32))])
  have F_a1_columns_17 := ((F_columns.ext E13).other W16 (Or.inl ne_a1_gA))
  obtain ⟨T18, X18, e18, st18⟩ := getF X16 hx hZ hown (host := "") (Or.inl (hw _ (List.mem_of_getElem? (i := 12) rfl))) Via.refl e16 F_a1_columns_17 (g := (mkF m 18 #[rv a1, rv r, iv (1 : Int32)] [(.ref a1), (.int (1 : Int32))])) rfl rfl (hb hby d7_18)
  refine Goes.step ?_ st18
  show Goes p e below _ (sF T18 m 21 #[rv a1, rv r, iv (1 : Int32)] [(.ref gA), (.int (1 : Int32))])
  obtain ⟨cl19, Ar19, q19, S19, N_19, H19, G19⟩ := id V_16
  refine Goes.step ?_ (fun _ k => X18.arraylength hx (by rw [e18]; exact Ar19.1) (State.isArrayOf_alike hZ.alike Ar19.2.1) (g := (mkF m 21 #[rv a1, rv r, iv (1 : Int32)] [(.ref gA), (.int (1 : Int32))])) rfl rfl (hb hby d7_21) _ k)
  rw [len_of S19 N_19]
  show Goes p e below _ (sF T18 m 22 #[rv a1, rv r, iv (1 : Int32)] [(.int (3 : Int32)), (.int (1 : Int32))])
  refine Goes.step ?_ (fun _ k => XS.icmpNo X18.here hx rfl (hb hby d7_22) rfl (tlt (by decide : (1 : Int32) < (3 : Int32))).2.1 k)
  show Goes p e below _ (sF T18 m 25 #[rv a1, rv r, iv (1 : Int32)] [])
  refine Goes.step ?_ (fun _ k => XS.aloadN X18.here hx rfl (hb hby d7_25) rfl rfl k)
  show Goes p e below _ (sF T18 m 26 #[rv a1, rv r, iv (1 : Int32)] [(.ref a1)])
  obtain ⟨T20, X20, e20, st20⟩ := getF X18 hx hZ hown (host := "") (Or.inl (hw _ (List.mem_of_getElem? (i := 12) rfl))) Via.refl e18 F_a1_columns_17 (g := (mkF m 26 #[rv a1, rv r, iv (1 : Int32)] [(.ref a1)])) rfl rfl (hb hby d7_26)
  refine Goes.step ?_ st20
  show Goes p e below _ (sF T20 m 29 #[rv a1, rv r, iv (1 : Int32)] [(.ref gA)])
  refine Goes.step ?_ (fun _ k => XS.iloadN X20.here hx rfl (hb hby d7_29) rfl  k)
  show Goes p e below _ (sF T20 m 30 #[rv a1, rv r, iv (1 : Int32)] [(.int (1 : Int32)), (.ref gA)])
  refine Goes.step ?_ (fun _ k => XS.aloadN X20.here hx rfl (hb hby d7_30) rfl rfl k)
  show Goes p e below _ (sF T20 m 31 #[rv a1, rv r, iv (1 : Int32)] [(.ref a1), (.int (1 : Int32)), (.ref gA)])
  obtain ⟨T21, X21, e21, st21⟩ := getF X20 hx hZ hown (host := "") (Or.inl (hw _ (List.mem_of_getElem? (i := 12) rfl))) Via.refl e20 F_a1_columns_17 (g := (mkF m 31 #[rv a1, rv r, iv (1 : Int32)] [(.ref a1), (.int (1 : Int32)), (.ref gA)])) rfl rfl (hb hby d7_31)
  refine Goes.step ?_ st21
  show Goes p e below _ (sF T21 m 34 #[rv a1, rv r, iv (1 : Int32)] [(.ref gA), (.int (1 : Int32)), (.ref gA)])
  refine Goes.step ?_ (fun _ k => XS.iloadN X21.here hx rfl (hb hby d7_34) rfl  k)
  show Goes p e below _ (sF T21 m 35 #[rv a1, rv r, iv (1 : Int32)] [(.int (1 : Int32)), (.ref gA), (.int (1 : Int32)), (.ref gA)])
  obtain ⟨cl22, Ar22, q22, S22, N_22, H22, G22⟩ := id V_16
  have hin23 : ¬ ((1 : Int32) < 0 ∨ cl22.slots.size ≤ ((1 : Int32)).toNatClampNeg) := inb_of S22 ⟨by decide, by decide⟩
  have hat23 : cl22.slots[((1 : Int32)).toNatClampNeg]? = some (.ref x1) := H22.at hin23 rfl
  refine Goes.step ?_ (fun _ k => X21.aaload hx (j := (1 : Int32)) (v := (.ref x1)) (by rw [e21]; exact Ar22.1) (State.isArrayOf_alike hZ.alike Ar22.2.1) rfl Ar22.2.2 hin23 hat23 (g := (mkF m 35 #[rv a1, rv r, iv (1 : Int32)] [(.int (1 : Int32)), (.ref gA), (.int (1 : Int32)), (.ref gA)])) rfl rfl (hb hby d7_35) _ k)
  show Goes p e below _ (sF T21 m 36 #[rv a1, rv r, iv (1 : Int32)] [(.ref x1), (.int (1 : Int32)), (.ref gA)])
  refine Goes.step ?_ (fun _ k => XS.aloadN X21.here hx rfl (hb hby d7_36) rfl rfl k)
  show Goes p e below _ (sF T21 m 37 #[rv a1, rv r, iv (1 : Int32)] [(.ref a1), (.ref x1), (.int (1 : Int32)), (.ref gA)])
  have F_a1_size_24 := ((F_size.ext E13).other W16 (Or.inl ne_a1_gA))
  obtain ⟨T25, X25, e25, st25⟩ := getF X21 hx hZ hown (host := "") (Or.inl (hw _ (List.mem_of_getElem? (i := 19) rfl))) Via.refl e21 F_a1_size_24 (g := (mkF m 37 #[rv a1, rv r, iv (1 : Int32)] [(.ref a1), (.ref x1), (.int (1 : Int32)), (.ref gA)])) rfl rfl (hb hby d7_37)
  refine Goes.step ?_ st25
  show Goes p e below _ (sF T25 m 40 #[rv a1, rv r, iv (1 : Int32)] [(.int (1 : Int32)), (.ref x1), (.int (1 : Int32)), (.ref gA)])
  refine Goes.step ?_ (fun _ k => XS.iconst X25.here hx rfl (hb hby d7_40) k)
  show Goes p e below _ (sF T25 m 41 #[rv a1, rv r, iv (1 : Int32)] [(.int (2 : Int32)), (.int (1 : Int32)), (.ref x1), (.int (1 : Int32)), (.ref gA)])
  refine Goes.step ?_ (fun _ k => XS.imul X25.here hx rfl (hb hby d7_41) rfl k)
  show Goes p e below _ (sF T25 m 42 #[rv a1, rv r, iv (1 : Int32)] [(.int ((1 : Int32) * (2 : Int32))), (.ref x1), (.int (1 : Int32)), (.ref gA)])
  rw [show ((1 : Int32) * (2 : Int32)) = (2 : Int32) from by decide]
  show Goes p e below _ (sF T25 m 42 #[rv a1, rv r, iv (1 : Int32)] [(.int (2 : Int32)), (.ref x1), (.int (1 : Int32)), (.ref gA)])
  have V_x1_26 := ((V_x1.ext E13).other W16 (Ne.symm ne_gA_x1))
  obtain ⟨_, _, ⟨T27, L27, k27, n27⟩, -, X27, ⟨Lc27, hQ27, l27, y27, z27⟩, st27⟩ := Jvm.LawKit.callS X25 hx (y := (⟨"java/util/Arrays", "copyOf", "([II)[I"⟩ : MethodName)) hown (mvT hZ (hw _ (List.mem_of_getElem? (i := 21) rfl))) (mvT hZ (hw _ (List.mem_of_getElem? (i := 22) rfl))) (mvT hZ (hw _ (List.mem_of_getElem? (i := 23) rfl))) (mvT hZ (hw _ (List.mem_of_getElem? (i := 24) rfl))) (by decide) (backOf (W := 2) (rmCp1_2 l Z a0 hw [] x1 d1_0 kx1 h16 n0 Zs16 V_x1_26) hZ (hw _ (List.mem_of_getElem? (i := 24) rfl)) (hw _ (List.mem_of_getElem? (i := 23) rfl)) (by decide) (by decide)) (g := (mkF m 42 #[rv a1, rv r, iv (1 : Int32)] [(.int (2 : Int32)), (.ref x1), (.int (1 : Int32)), (.ref gA)])) rfl (by rw [hml]; rfl) (argsL := [(.ref x1), (.int (2 : Int32))]) (rest := [(.int (1 : Int32)), (.ref gA)]) (lenOf pd__28_5bII_29_5bI rfl) rfl (by show 2 * 0 + _ ≤ _; exact Nat.le_of_eq rfl) (hb hby d7_42) (fun _ _ => ⟨rfl, e25, (by decide : 0 + 1 + 1 ≤ _), (by decide : 0 + 4 + 4 ≤ _)⟩)
  dsimp only [Pt.U, Pt.locs, Pt.cells, Pt.slots] at X27 l27 y27 z27 st27 hQ27
  subst l27 y27 z27
  obtain ⟨r27, kr27, rfl, N27q, E27, gr27, Vr27, A27⟩ := hQ27
  have N27 := Fr.app N16 N27q
  refine Goes.step ?_ st27
  have g_r27 : n0 ≤ r27 := Nat.le_trans Zs16 gr27
  have K_28 := (((Keep.refl h0 [a1, gA]).ext E13).wr W16 (Or.inl (List.mem_of_getElem? (i := 1) rfl)))
  have sz_r27 : h0.size ≤ r27 := Nat.le_trans K_28.1 gr27
  have ne_a1_r27 : a1 ≠ r27 := Nat.ne_of_lt (Nat.lt_of_lt_of_le F_a1_columns_17.lt gr27)
  have ne_gA_r27 : gA ≠ r27 := Nat.ne_of_lt (Nat.lt_of_lt_of_le V_16.lt gr27)
  have V_r_29 := ((V_r.ext E13).other W16 ne_r_gA)
  have ne_r_r27 : r ≠ r27 := Nat.ne_of_lt (Nat.lt_of_lt_of_le V_r_29.lt gr27)
  have V_x0_30 := ((V_x0.ext E13).other W16 (Ne.symm ne_gA_x0))
  have ne_x0_r27 : x0 ≠ r27 := Nat.ne_of_lt (Nat.lt_of_lt_of_le V_x0_30.lt gr27)
  have ne_x1_r27 : x1 ≠ r27 := Nat.ne_of_lt (Nat.lt_of_lt_of_le V_x1_26.lt gr27)
  have V_x2_31 := ((V_x2.ext E13).other W16 (Ne.symm ne_gA_x2))
  have ne_x2_r27 : x2 ≠ r27 := Nat.ne_of_lt (Nat.lt_of_lt_of_le V_x2_31.lt gr27)
  have V_r13_32 := (Vr13.other W16 (Ne.symm ne_gA_r13))
  have ne_r13_r27 : r13 ≠ r27 := Nat.ne_of_lt (Nat.lt_of_lt_of_le V_r13_32.lt gr27)
  have Zs27 : n0 ≤ T27.heap.size := Nat.le_trans Zs16 E27.1
  show Goes p e below _ (sF T27 m 45 #[rv a1, rv r, iv (1 : Int32)] [(.ref r27), (.int (1 : Int32)), (.ref gA)])
  have V_gA_33 := (V_16.ext E27)
  obtain ⟨cl34, Ar34, q34, S34, N_34, H34, G34⟩ := id V_gA_33
  have hin35 : ¬ ((1 : Int32) < 0 ∨ cl34.slots.size ≤ ((1 : Int32)).toNatClampNeg) := inb_of S34 ⟨by decide, by decide⟩
  obtain ⟨T35, h35, X35, e35, W35, st35⟩ := stR X27 hx hZ rfl Ar34 (j := (1 : Int32)) hin35 rfl (Sto.ofVA Ar34 q34 Ov (Ins.self A27)) (g := (mkF m 45 #[rv a1, rv r, iv (1 : Int32)] [(.ref r27), (.int (1 : Int32)), (.ref gA)])) rfl rfl (hb hby d7_45)
  have V_35 : Arv Z h35 gA kA (.array .int) (3 : Int32) [(.ref r13), (.ref r27), (.ref x2)] .null := Arv.set Ar34 q34 S34 N_34 H34 G34 rfl W35 1 rfl (Nat.le_of_ble_eq_true rfl)
  have Zs35 : n0 ≤ h35.size := Nat.le_trans Zs27 (Keep.of_wr W35).1
  have N35 := Fr.snoc X35 N27 g_gA
  refine Goes.step ?_ st35
  show Goes p e below _ (sF T35 m 46 #[rv a1, rv r, iv (1 : Int32)] [])
  refine Goes.step ?_ (fun _ k => XS.iinc X35.here hx rfl (hb hby d7_46) rfl (l' := #[rv a1, rv r, iv ((1 : Int32) + (1 : Int32))]) rfl k)
  show Goes p e below _ (sF T35 m 49 #[rv a1, rv r, iv ((1 : Int32) + (1 : Int32))] [])
  rw [show ((1 : Int32) + (1 : Int32)) = (2 : Int32) from by decide]
  show Goes p e below _ (sF T35 m 49 #[rv a1, rv r, iv (2 : Int32)] [])
  refine Goes.step ?_ (fun _ k => XS.goto X35.here hx rfl (pc0 := 49) (pc' := 16) rfl (hb hby d7_49) (by decide) (by decide) k)
  show Goes p e below _ (sF T35 m 16 #[rv a1, rv r, iv (2 : Int32)] [])
  refine Goes.step ?_ (fun _ k => XS.iloadN X35.here hx rfl (hb hby d7_16) rfl  k)
  show Goes p e below _ (sF T35 m 17 #[rv a1, rv r, iv (2 : Int32)] [(.int (2 : Int32))])
  refine Goes.step ?_ (fun _ k => XS.aloadN X35.here hx rfl (hb hby d7_17) rfl rfl k)
  show Goes p e below _ (sF T35 m 18 #[rv a1, rv r, iv (2 : Int32)] [(.ref a1), (.int (2 : Int32))])
  have F_a1_columns_36 := ((F_a1_columns_17.ext E27).other W35 (Or.inl ne_a1_gA))
  obtain ⟨T37, X37, e37, st37⟩ := getF X35 hx hZ hown (host := "") (Or.inl (hw _ (List.mem_of_getElem? (i := 12) rfl))) Via.refl e35 F_a1_columns_36 (g := (mkF m 18 #[rv a1, rv r, iv (2 : Int32)] [(.ref a1), (.int (2 : Int32))])) rfl rfl (hb hby d7_18)
  refine Goes.step ?_ st37
  show Goes p e below _ (sF T37 m 21 #[rv a1, rv r, iv (2 : Int32)] [(.ref gA), (.int (2 : Int32))])
  obtain ⟨cl38, Ar38, q38, S38, N_38, H38, G38⟩ := id V_35
  refine Goes.step ?_ (fun _ k => X37.arraylength hx (by rw [e37]; exact Ar38.1) (State.isArrayOf_alike hZ.alike Ar38.2.1) (g := (mkF m 21 #[rv a1, rv r, iv (2 : Int32)] [(.ref gA), (.int (2 : Int32))])) rfl rfl (hb hby d7_21) _ k)
  rw [len_of S38 N_38]
  show Goes p e below _ (sF T37 m 22 #[rv a1, rv r, iv (2 : Int32)] [(.int (3 : Int32)), (.int (2 : Int32))])
  refine Goes.step ?_ (fun _ k => XS.icmpNo X37.here hx rfl (hb hby d7_22) rfl (tlt (by decide : (2 : Int32) < (3 : Int32))).2.1 k)
  show Goes p e below _ (sF T37 m 25 #[rv a1, rv r, iv (2 : Int32)] [])
  refine Goes.step ?_ (fun _ k => XS.aloadN X37.here hx rfl (hb hby d7_25) rfl rfl k)
  show Goes p e below _ (sF T37 m 26 #[rv a1, rv r, iv (2 : Int32)] [(.ref a1)])
  obtain ⟨T39, X39, e39, st39⟩ := getF X37 hx hZ hown (host := "") (Or.inl (hw _ (List.mem_of_getElem? (i := 12) rfl))) Via.refl e37 F_a1_columns_36 (g := (mkF m 26 #[rv a1, rv r, iv (2 : Int32)] [(.ref a1)])) rfl rfl (hb hby d7_26)
  refine Goes.step ?_ st39
  show Goes p e below _ (sF T39 m 29 #[rv a1, rv r, iv (2 : Int32)] [(.ref gA)])
  refine Goes.step ?_ (fun _ k => XS.iloadN X39.here hx rfl (hb hby d7_29) rfl  k)
  show Goes p e below _ (sF T39 m 30 #[rv a1, rv r, iv (2 : Int32)] [(.int (2 : Int32)), (.ref gA)])
  refine Goes.step ?_ (fun _ k => XS.aloadN X39.here hx rfl (hb hby d7_30) rfl rfl k)
  show Goes p e below _ (sF T39 m 31 #[rv a1, rv r, iv (2 : Int32)] [(.ref a1), (.int (2 : Int32)), (.ref gA)])
  obtain ⟨T40, X40, e40, st40⟩ := getF X39 hx hZ hown (host := "") (Or.inl (hw _ (List.mem_of_getElem? (i := 12) rfl))) Via.refl e39 F_a1_columns_36 (g := (mkF m 31 #[rv a1, rv r, iv (2 : Int32)] [(.ref a1), (.int (2 : Int32)), (.ref gA)])) rfl rfl (hb hby d7_31)
  refine Goes.step ?_ st40
  show Goes p e below _ (sF T40 m 34 #[rv a1, rv r, iv (2 : Int32)] [(.ref gA), (.int (2 : Int32)), (.ref gA)])
  refine Goes.step ?_ (fun _ k => XS.iloadN X40.here hx rfl (hb hby d7_34) rfl  k)
  show Goes p e below _ (sF T40 m 35 #[rv a1, rv r, iv (2 : Int32)] [(.int (2 : Int32)), (.ref gA), (.int (2 : Int32)), (.ref gA)])
  obtain ⟨cl41, Ar41, q41, S41, N_41, H41, G41⟩ := id V_35
  have hin42 : ¬ ((2 : Int32) < 0 ∨ cl41.slots.size ≤ ((2 : Int32)).toNatClampNeg) := inb_of S41 ⟨by decide, by decide⟩
  have hat42 : cl41.slots[((2 : Int32)).toNatClampNeg]? = some (.ref x2) := H41.at hin42 rfl
  refine Goes.step ?_ (fun _ k => X40.aaload hx (j := (2 : Int32)) (v := (.ref x2)) (by rw [e40]; exact Ar41.1) (State.isArrayOf_alike hZ.alike Ar41.2.1) rfl Ar41.2.2 hin42 hat42 (g := (mkF m 35 #[rv a1, rv r, iv (2 : Int32)] [(.int (2 : Int32)), (.ref gA), (.int (2 : Int32)), (.ref gA)])) rfl rfl (hb hby d7_35) _ k)
  show Goes p e below _ (sF T40 m 36 #[rv a1, rv r, iv (2 : Int32)] [(.ref x2), (.int (2 : Int32)), (.ref gA)])
  refine Goes.step ?_ (fun _ k => XS.aloadN X40.here hx rfl (hb hby d7_36) rfl rfl k)
  show Goes p e below _ (sF T40 m 37 #[rv a1, rv r, iv (2 : Int32)] [(.ref a1), (.ref x2), (.int (2 : Int32)), (.ref gA)])
  have F_a1_size_43 := ((F_a1_size_24.ext E27).other W35 (Or.inl ne_a1_gA))
  obtain ⟨T44, X44, e44, st44⟩ := getF X40 hx hZ hown (host := "") (Or.inl (hw _ (List.mem_of_getElem? (i := 19) rfl))) Via.refl e40 F_a1_size_43 (g := (mkF m 37 #[rv a1, rv r, iv (2 : Int32)] [(.ref a1), (.ref x2), (.int (2 : Int32)), (.ref gA)])) rfl rfl (hb hby d7_37)
  refine Goes.step ?_ st44
  show Goes p e below _ (sF T44 m 40 #[rv a1, rv r, iv (2 : Int32)] [(.int (1 : Int32)), (.ref x2), (.int (2 : Int32)), (.ref gA)])
  refine Goes.step ?_ (fun _ k => XS.iconst X44.here hx rfl (hb hby d7_40) k)
  show Goes p e below _ (sF T44 m 41 #[rv a1, rv r, iv (2 : Int32)] [(.int (2 : Int32)), (.int (1 : Int32)), (.ref x2), (.int (2 : Int32)), (.ref gA)])
  refine Goes.step ?_ (fun _ k => XS.imul X44.here hx rfl (hb hby d7_41) rfl k)
  show Goes p e below _ (sF T44 m 42 #[rv a1, rv r, iv (2 : Int32)] [(.int ((1 : Int32) * (2 : Int32))), (.ref x2), (.int (2 : Int32)), (.ref gA)])
  rw [show ((1 : Int32) * (2 : Int32)) = (2 : Int32) from by decide]
  show Goes p e below _ (sF T44 m 42 #[rv a1, rv r, iv (2 : Int32)] [(.int (2 : Int32)), (.ref x2), (.int (2 : Int32)), (.ref gA)])
  have V_x2_45 := ((V_x2_31.ext E27).other W35 (Ne.symm ne_gA_x2))
  obtain ⟨_, _, ⟨T46, L46, k46, n46⟩, -, X46, ⟨Lc46, hQ46, l46, y46, z46⟩, st46⟩ := Jvm.LawKit.callS X44 hx (y := (⟨"java/util/Arrays", "copyOf", "([II)[I"⟩ : MethodName)) hown (mvT hZ (hw _ (List.mem_of_getElem? (i := 21) rfl))) (mvT hZ (hw _ (List.mem_of_getElem? (i := 22) rfl))) (mvT hZ (hw _ (List.mem_of_getElem? (i := 23) rfl))) (mvT hZ (hw _ (List.mem_of_getElem? (i := 24) rfl))) (by decide) (backOf (W := 2) (rmCp1_2 l Z a0 hw [] x2 d2_0 kx2 h35 n0 Zs35 V_x2_45) hZ (hw _ (List.mem_of_getElem? (i := 24) rfl)) (hw _ (List.mem_of_getElem? (i := 23) rfl)) (by decide) (by decide)) (g := (mkF m 42 #[rv a1, rv r, iv (2 : Int32)] [(.int (2 : Int32)), (.ref x2), (.int (2 : Int32)), (.ref gA)])) rfl (by rw [hml]; rfl) (argsL := [(.ref x2), (.int (2 : Int32))]) (rest := [(.int (2 : Int32)), (.ref gA)]) (lenOf pd__28_5bII_29_5bI rfl) rfl (by show 2 * 0 + _ ≤ _; exact Nat.le_of_eq rfl) (hb hby d7_42) (fun _ _ => ⟨rfl, e44, (by decide : 0 + 1 + 1 + 1 ≤ _), (by decide : 0 + 4 + 4 + 4 ≤ _)⟩)
  dsimp only [Pt.U, Pt.locs, Pt.cells, Pt.slots] at X46 l46 y46 z46 st46 hQ46
  subst l46 y46 z46
  obtain ⟨r46, kr46, rfl, N46q, E46, gr46, Vr46, A46⟩ := hQ46
  have N46 := Fr.app N35 N46q
  refine Goes.step ?_ st46
  have g_r46 : n0 ≤ r46 := Nat.le_trans Zs35 gr46
  have K_47 := ((K_28.ext E27).wr W35 (Or.inl (List.mem_of_getElem? (i := 1) rfl)))
  have sz_r46 : h0.size ≤ r46 := Nat.le_trans K_47.1 gr46
  have ne_a1_r46 : a1 ≠ r46 := Nat.ne_of_lt (Nat.lt_of_lt_of_le F_a1_columns_36.lt gr46)
  have ne_gA_r46 : gA ≠ r46 := Nat.ne_of_lt (Nat.lt_of_lt_of_le V_35.lt gr46)
  have V_r_48 := ((V_r_29.ext E27).other W35 ne_r_gA)
  have ne_r_r46 : r ≠ r46 := Nat.ne_of_lt (Nat.lt_of_lt_of_le V_r_48.lt gr46)
  have V_x0_49 := ((V_x0_30.ext E27).other W35 (Ne.symm ne_gA_x0))
  have ne_x0_r46 : x0 ≠ r46 := Nat.ne_of_lt (Nat.lt_of_lt_of_le V_x0_49.lt gr46)
  have V_x1_50 := ((V_x1_26.ext E27).other W35 (Ne.symm ne_gA_x1))
  have ne_x1_r46 : x1 ≠ r46 := Nat.ne_of_lt (Nat.lt_of_lt_of_le V_x1_50.lt gr46)
  have ne_x2_r46 : x2 ≠ r46 := Nat.ne_of_lt (Nat.lt_of_lt_of_le V_x2_45.lt gr46)
  have V_r13_51 := ((V_r13_32.ext E27).other W35 (Ne.symm ne_gA_r13))
  have ne_r13_r46 : r13 ≠ r46 := Nat.ne_of_lt (Nat.lt_of_lt_of_le V_r13_51.lt gr46)
  have V_r27_52 := (Vr27.other W35 (Ne.symm ne_gA_r27))
  have ne_r27_r46 : r27 ≠ r46 := Nat.ne_of_lt (Nat.lt_of_lt_of_le V_r27_52.lt gr46)
  have Zs46 : n0 ≤ T46.heap.size := Nat.le_trans Zs35 E46.1
  show Goes p e below _ (sF T46 m 45 #[rv a1, rv r, iv (2 : Int32)] [(.ref r46), (.int (2 : Int32)), (.ref gA)])
  have V_gA_53 := (V_35.ext E46)
  obtain ⟨cl54, Ar54, q54, S54, N_54, H54, G54⟩ := id V_gA_53
  have hin55 : ¬ ((2 : Int32) < 0 ∨ cl54.slots.size ≤ ((2 : Int32)).toNatClampNeg) := inb_of S54 ⟨by decide, by decide⟩
  obtain ⟨T55, h55, X55, e55, W55, st55⟩ := stR X46 hx hZ rfl Ar54 (j := (2 : Int32)) hin55 rfl (Sto.ofVA Ar54 q54 Ov (Ins.self A46)) (g := (mkF m 45 #[rv a1, rv r, iv (2 : Int32)] [(.ref r46), (.int (2 : Int32)), (.ref gA)])) rfl rfl (hb hby d7_45)
  have V_55 : Arv Z h55 gA kA (.array .int) (3 : Int32) [(.ref r13), (.ref r27), (.ref r46)] .null := Arv.set Ar54 q54 S54 N_54 H54 G54 rfl W55 2 rfl (Nat.le_of_ble_eq_true rfl)
  have Zs55 : n0 ≤ h55.size := Nat.le_trans Zs46 (Keep.of_wr W55).1
  have N55 := Fr.snoc X55 N46 g_gA
  refine Goes.step ?_ st55
  show Goes p e below _ (sF T55 m 46 #[rv a1, rv r, iv (2 : Int32)] [])
  refine Goes.step ?_ (fun _ k => XS.iinc X55.here hx rfl (hb hby d7_46) rfl (l' := #[rv a1, rv r, iv ((2 : Int32) + (1 : Int32))]) rfl k)
  show Goes p e below _ (sF T55 m 49 #[rv a1, rv r, iv ((2 : Int32) + (1 : Int32))] [])
  rw [show ((2 : Int32) + (1 : Int32)) = (3 : Int32) from by decide]
  show Goes p e below _ (sF T55 m 49 #[rv a1, rv r, iv (3 : Int32)] [])
  refine Goes.step ?_ (fun _ k => XS.goto X55.here hx rfl (pc0 := 49) (pc' := 16) rfl (hb hby d7_49) (by decide) (by decide) k)
  show Goes p e below _ (sF T55 m 16 #[rv a1, rv r, iv (3 : Int32)] [])
  refine Goes.step ?_ (fun _ k => XS.iloadN X55.here hx rfl (hb hby d7_16) rfl  k)
  show Goes p e below _ (sF T55 m 17 #[rv a1, rv r, iv (3 : Int32)] [(.int (3 : Int32))])
  refine Goes.step ?_ (fun _ k => XS.aloadN X55.here hx rfl (hb hby d7_17) rfl rfl k)
  show Goes p e below _ (sF T55 m 18 #[rv a1, rv r, iv (3 : Int32)] [(.ref a1), (.int (3 : Int32))])
  have F_a1_columns_56 := ((F_a1_columns_36.ext E46).other W55 (Or.inl ne_a1_gA))
  obtain ⟨T57, X57, e57, st57⟩ := getF X55 hx hZ hown (host := "") (Or.inl (hw _ (List.mem_of_getElem? (i := 12) rfl))) Via.refl e55 F_a1_columns_56 (g := (mkF m 18 #[rv a1, rv r, iv (3 : Int32)] [(.ref a1), (.int (3 : Int32))])) rfl rfl (hb hby d7_18)
  refine Goes.step ?_ st57
  show Goes p e below _ (sF T57 m 21 #[rv a1, rv r, iv (3 : Int32)] [(.ref gA), (.int (3 : Int32))])
  obtain ⟨cl58, Ar58, q58, S58, N_58, H58, G58⟩ := id V_55
  refine Goes.step ?_ (fun _ k => X57.arraylength hx (by rw [e57]; exact Ar58.1) (State.isArrayOf_alike hZ.alike Ar58.2.1) (g := (mkF m 21 #[rv a1, rv r, iv (3 : Int32)] [(.ref gA), (.int (3 : Int32))])) rfl rfl (hb hby d7_21) _ k)
  rw [len_of S58 N_58]
  show Goes p e below _ (sF T57 m 22 #[rv a1, rv r, iv (3 : Int32)] [(.int (3 : Int32)), (.int (3 : Int32))])
  refine Goes.step ?_ (fun _ k => XS.icmpYes X57.here hx rfl (pc0 := 22) (pc' := 52) rfl (hb hby d7_22) rfl (flt (by decide : ¬ ((3 : Int32) < (3 : Int32)))).2.1 (by decide) (by decide) k)
  show Goes p e below _ (sF T57 m 52 #[rv a1, rv r, iv (3 : Int32)] [])
  refine Goes.step ?_ (fun _ k => XS.iconst X57.here hx rfl (hb hby d7_52) k)
  show Goes p e below _ (sF T57 m 53 #[rv a1, rv r, iv (3 : Int32)] [(.int (0 : Int32))])
  refine Goes.step ?_ (fun _ k => XS.istoreN X57.here hx rfl (hb hby d7_53) rfl (l' := #[rv a1, rv r, iv (0 : Int32)]) rfl k)
  show Goes p e below _ (sF T57 m 54 #[rv a1, rv r, iv (0 : Int32)] [])
  refine Goes.step ?_ (fun _ k => XS.iloadN X57.here hx rfl (hb hby d7_54) rfl  k)
  show Goes p e below _ (sF T57 m 55 #[rv a1, rv r, iv (0 : Int32)] [(.int (0 : Int32))])
  refine Goes.step ?_ (fun _ k => XS.aloadN X57.here hx rfl (hb hby d7_55) rfl rfl k)
  show Goes p e below _ (sF T57 m 56 #[rv a1, rv r, iv (0 : Int32)] [(.ref a1), (.int (0 : Int32))])
  obtain ⟨T59, X59, e59, st59⟩ := getF X57 hx hZ hown (host := "") (Or.inl (hw _ (List.mem_of_getElem? (i := 12) rfl))) Via.refl e57 F_a1_columns_56 (g := (mkF m 56 #[rv a1, rv r, iv (0 : Int32)] [(.ref a1), (.int (0 : Int32))])) rfl rfl (hb hby d7_56)
  refine Goes.step ?_ st59
  show Goes p e below _ (sF T59 m 59 #[rv a1, rv r, iv (0 : Int32)] [(.ref gA), (.int (0 : Int32))])
  obtain ⟨cl60, Ar60, q60, S60, N_60, H60, G60⟩ := id V_55
  refine Goes.step ?_ (fun _ k => X59.arraylength hx (by rw [e59]; exact Ar60.1) (State.isArrayOf_alike hZ.alike Ar60.2.1) (g := (mkF m 59 #[rv a1, rv r, iv (0 : Int32)] [(.ref gA), (.int (0 : Int32))])) rfl rfl (hb hby d7_59) _ k)
  rw [len_of S60 N_60]
  show Goes p e below _ (sF T59 m 60 #[rv a1, rv r, iv (0 : Int32)] [(.int (3 : Int32)), (.int (0 : Int32))])
  refine Goes.step ?_ (fun _ k => XS.icmpNo X59.here hx rfl (hb hby d7_60) rfl (tlt (by decide : (0 : Int32) < (3 : Int32))).2.1 k)
  show Goes p e below _ (sF T59 m 63 #[rv a1, rv r, iv (0 : Int32)] [])
  refine Goes.step ?_ (fun _ k => XS.aloadN X59.here hx rfl (hb hby d7_63) rfl rfl k)
  show Goes p e below _ (sF T59 m 64 #[rv a1, rv r, iv (0 : Int32)] [(.ref a1)])
  obtain ⟨T61, X61, e61, st61⟩ := getF X59 hx hZ hown (host := "") (Or.inl (hw _ (List.mem_of_getElem? (i := 12) rfl))) Via.refl e59 F_a1_columns_56 (g := (mkF m 64 #[rv a1, rv r, iv (0 : Int32)] [(.ref a1)])) rfl rfl (hb hby d7_64)
  refine Goes.step ?_ st61
  show Goes p e below _ (sF T61 m 67 #[rv a1, rv r, iv (0 : Int32)] [(.ref gA)])
  refine Goes.step ?_ (fun _ k => XS.iloadN X61.here hx rfl (hb hby d7_67) rfl  k)
  show Goes p e below _ (sF T61 m 68 #[rv a1, rv r, iv (0 : Int32)] [(.int (0 : Int32)), (.ref gA)])
  obtain ⟨cl62, Ar62, q62, S62, N_62, H62, G62⟩ := id V_55
  have hin63 : ¬ ((0 : Int32) < 0 ∨ cl62.slots.size ≤ ((0 : Int32)).toNatClampNeg) := inb_of S62 ⟨by decide, by decide⟩
  have hat63 : cl62.slots[((0 : Int32)).toNatClampNeg]? = some (.ref r13) := H62.at hin63 rfl
  refine Goes.step ?_ (fun _ k => X61.aaload hx (j := (0 : Int32)) (v := (.ref r13)) (by rw [e61]; exact Ar62.1) (State.isArrayOf_alike hZ.alike Ar62.2.1) rfl Ar62.2.2 hin63 hat63 (g := (mkF m 68 #[rv a1, rv r, iv (0 : Int32)] [(.int (0 : Int32)), (.ref gA)])) rfl rfl (hb hby d7_68) _ k)
  show Goes p e below _ (sF T61 m 69 #[rv a1, rv r, iv (0 : Int32)] [(.ref r13)])
  refine Goes.step ?_ (fun _ k => XS.aloadN X61.here hx rfl (hb hby d7_69) rfl rfl k)
  show Goes p e below _ (sF T61 m 70 #[rv a1, rv r, iv (0 : Int32)] [(.ref a1), (.ref r13)])
  have F_a1_size_64 := ((F_a1_size_43.ext E46).other W55 (Or.inl ne_a1_gA))
  obtain ⟨T65, X65, e65, st65⟩ := getF X61 hx hZ hown (host := "") (Or.inl (hw _ (List.mem_of_getElem? (i := 19) rfl))) Via.refl e61 F_a1_size_64 (g := (mkF m 70 #[rv a1, rv r, iv (0 : Int32)] [(.ref a1), (.ref r13)])) rfl rfl (hb hby d7_70)
  refine Goes.step ?_ st65
  show Goes p e below _ (sF T65 m 73 #[rv a1, rv r, iv (0 : Int32)] [(.int (1 : Int32)), (.ref r13)])
  refine Goes.step ?_ (fun _ k => XS.aloadN X65.here hx rfl (hb hby d7_73) rfl rfl k)
  show Goes p e below _ (sF T65 m 74 #[rv a1, rv r, iv (0 : Int32)] [(.ref r), (.int (1 : Int32)), (.ref r13)])
  refine Goes.step ?_ (fun _ k => XS.iloadN X65.here hx rfl (hb hby d7_74) rfl  k)
  show Goes p e below _ (sF T65 m 75 #[rv a1, rv r, iv (0 : Int32)] [(.int (0 : Int32)), (.ref r), (.int (1 : Int32)), (.ref r13)])
  have V_r_66 := ((V_r_48.ext E46).other W55 ne_r_gA)
  obtain ⟨cl67, Ar67, q67, S67, N_67, H67, G67⟩ := id V_r_66
  have hin68 : ¬ ((0 : Int32) < 0 ∨ cl67.slots.size ≤ ((0 : Int32)).toNatClampNeg) := inb_of S67 ⟨by decide, by decide⟩
  have hat68 : cl67.slots[((0 : Int32)).toNatClampNeg]? = some (.int y0) := H67.at hin68 rfl
  refine Goes.step ?_ (fun _ k => X65.iaload hx (j := (0 : Int32)) (v := (.int y0)) (by rw [e65]; exact Ar67.1) (State.isArrayOf_alike hZ.alike Ar67.2.1) Ar67.2.2 hin68 hat68 (g := (mkF m 75 #[rv a1, rv r, iv (0 : Int32)] [(.int (0 : Int32)), (.ref r), (.int (1 : Int32)), (.ref r13)])) rfl rfl (hb hby d7_75) _ k)
  show Goes p e below _ (sF T65 m 76 #[rv a1, rv r, iv (0 : Int32)] [(.int y0), (.int (1 : Int32)), (.ref r13)])
  have V_r13_69 := ((V_r13_51.ext E46).other W55 (Ne.symm ne_gA_r13))
  obtain ⟨cl70, Ar70, q70, S70, N_70, H70, G70⟩ := id V_r13_69
  have hin71 : ¬ ((1 : Int32) < 0 ∨ cl70.slots.size ≤ ((1 : Int32)).toNatClampNeg) := inb_of S70 ⟨by decide, by decide⟩
  obtain ⟨T71, h71, X71, e71, W71, st71⟩ := stI X65 hx hZ e65 Ar70 (j := (1 : Int32)) hin71 (g := (mkF m 76 #[rv a1, rv r, iv (0 : Int32)] [(.int y0), (.int (1 : Int32)), (.ref r13)])) rfl rfl (hb hby d7_76)
  have V_71 : Arv Z h71 r13 kr13 .int (2 : Int32) [(.int d0_0), (.int y0)] (.int (0 : Int32)) := Arv.set Ar70 q70 S70 N_70 H70 G70 rfl W71 1 rfl (Nat.le_of_ble_eq_true rfl)
  have Zs71 : n0 ≤ h71.size := Nat.le_trans Zs55 (Keep.of_wr W71).1
  have N71 := Fr.snoc X71 N55 g_r13
  refine Goes.step ?_ st71
  show Goes p e below _ (sF T71 m 77 #[rv a1, rv r, iv (0 : Int32)] [])
  refine Goes.step ?_ (fun _ k => XS.iinc X71.here hx rfl (hb hby d7_77) rfl (l' := #[rv a1, rv r, iv ((0 : Int32) + (1 : Int32))]) rfl k)
  show Goes p e below _ (sF T71 m 80 #[rv a1, rv r, iv ((0 : Int32) + (1 : Int32))] [])
  rw [show ((0 : Int32) + (1 : Int32)) = (1 : Int32) from by decide]
  show Goes p e below _ (sF T71 m 80 #[rv a1, rv r, iv (1 : Int32)] [])
  refine Goes.step ?_ (fun _ k => XS.goto X71.here hx rfl (pc0 := 80) (pc' := 54) rfl (hb hby d7_80) (by decide) (by decide) k)
  show Goes p e below _ (sF T71 m 54 #[rv a1, rv r, iv (1 : Int32)] [])
  refine Goes.step ?_ (fun _ k => XS.iloadN X71.here hx rfl (hb hby d7_54) rfl  k)
  show Goes p e below _ (sF T71 m 55 #[rv a1, rv r, iv (1 : Int32)] [(.int (1 : Int32))])
  refine Goes.step ?_ (fun _ k => XS.aloadN X71.here hx rfl (hb hby d7_55) rfl rfl k)
  show Goes p e below _ (sF T71 m 56 #[rv a1, rv r, iv (1 : Int32)] [(.ref a1), (.int (1 : Int32))])
  have F_a1_columns_72 := (F_a1_columns_56.other W71 (Or.inl ne_a1_r13))
  obtain ⟨T73, X73, e73, st73⟩ := getF X71 hx hZ hown (host := "") (Or.inl (hw _ (List.mem_of_getElem? (i := 12) rfl))) Via.refl e71 F_a1_columns_72 (g := (mkF m 56 #[rv a1, rv r, iv (1 : Int32)] [(.ref a1), (.int (1 : Int32))])) rfl rfl (hb hby d7_56)
  refine Goes.step ?_ st73
  show Goes p e below _ (sF T73 m 59 #[rv a1, rv r, iv (1 : Int32)] [(.ref gA), (.int (1 : Int32))])
  have V_gA_74 := (V_55.other W71 ne_gA_r13)
  obtain ⟨cl75, Ar75, q75, S75, N_75, H75, G75⟩ := id V_gA_74
  refine Goes.step ?_ (fun _ k => X73.arraylength hx (by rw [e73]; exact Ar75.1) (State.isArrayOf_alike hZ.alike Ar75.2.1) (g := (mkF m 59 #[rv a1, rv r, iv (1 : Int32)] [(.ref gA), (.int (1 : Int32))])) rfl rfl (hb hby d7_59) _ k)
  rw [len_of S75 N_75]
  show Goes p e below _ (sF T73 m 60 #[rv a1, rv r, iv (1 : Int32)] [(.int (3 : Int32)), (.int (1 : Int32))])
  refine Goes.step ?_ (fun _ k => XS.icmpNo X73.here hx rfl (hb hby d7_60) rfl (tlt (by decide : (1 : Int32) < (3 : Int32))).2.1 k)
  show Goes p e below _ (sF T73 m 63 #[rv a1, rv r, iv (1 : Int32)] [])
  refine Goes.step ?_ (fun _ k => XS.aloadN X73.here hx rfl (hb hby d7_63) rfl rfl k)
  show Goes p e below _ (sF T73 m 64 #[rv a1, rv r, iv (1 : Int32)] [(.ref a1)])
  obtain ⟨T76, X76, e76, st76⟩ := getF X73 hx hZ hown (host := "") (Or.inl (hw _ (List.mem_of_getElem? (i := 12) rfl))) Via.refl e73 F_a1_columns_72 (g := (mkF m 64 #[rv a1, rv r, iv (1 : Int32)] [(.ref a1)])) rfl rfl (hb hby d7_64)
  refine Goes.step ?_ st76
  show Goes p e below _ (sF T76 m 67 #[rv a1, rv r, iv (1 : Int32)] [(.ref gA)])
  refine Goes.step ?_ (fun _ k => XS.iloadN X76.here hx rfl (hb hby d7_67) rfl  k)
  show Goes p e below _ (sF T76 m 68 #[rv a1, rv r, iv (1 : Int32)] [(.int (1 : Int32)), (.ref gA)])
  obtain ⟨cl77, Ar77, q77, S77, N_77, H77, G77⟩ := id V_gA_74
  have hin78 : ¬ ((1 : Int32) < 0 ∨ cl77.slots.size ≤ ((1 : Int32)).toNatClampNeg) := inb_of S77 ⟨by decide, by decide⟩
  have hat78 : cl77.slots[((1 : Int32)).toNatClampNeg]? = some (.ref r27) := H77.at hin78 rfl
  refine Goes.step ?_ (fun _ k => X76.aaload hx (j := (1 : Int32)) (v := (.ref r27)) (by rw [e76]; exact Ar77.1) (State.isArrayOf_alike hZ.alike Ar77.2.1) rfl Ar77.2.2 hin78 hat78 (g := (mkF m 68 #[rv a1, rv r, iv (1 : Int32)] [(.int (1 : Int32)), (.ref gA)])) rfl rfl (hb hby d7_68) _ k)
  show Goes p e below _ (sF T76 m 69 #[rv a1, rv r, iv (1 : Int32)] [(.ref r27)])
  refine Goes.step ?_ (fun _ k => XS.aloadN X76.here hx rfl (hb hby d7_69) rfl rfl k)
  show Goes p e below _ (sF T76 m 70 #[rv a1, rv r, iv (1 : Int32)] [(.ref a1), (.ref r27)])
  have F_a1_size_79 := (F_a1_size_64.other W71 (Or.inl ne_a1_r13))
  obtain ⟨T80, X80, e80, st80⟩ := getF X76 hx hZ hown (host := "") (Or.inl (hw _ (List.mem_of_getElem? (i := 19) rfl))) Via.refl e76 F_a1_size_79 (g := (mkF m 70 #[rv a1, rv r, iv (1 : Int32)] [(.ref a1), (.ref r27)])) rfl rfl (hb hby d7_70)
  refine Goes.step ?_ st80
  show Goes p e below _ (sF T80 m 73 #[rv a1, rv r, iv (1 : Int32)] [(.int (1 : Int32)), (.ref r27)])
  refine Goes.step ?_ (fun _ k => XS.aloadN X80.here hx rfl (hb hby d7_73) rfl rfl k)
  show Goes p e below _ (sF T80 m 74 #[rv a1, rv r, iv (1 : Int32)] [(.ref r), (.int (1 : Int32)), (.ref r27)])
  refine Goes.step ?_ (fun _ k => XS.iloadN X80.here hx rfl (hb hby d7_74) rfl  k)
  show Goes p e below _ (sF T80 m 75 #[rv a1, rv r, iv (1 : Int32)] [(.int (1 : Int32)), (.ref r), (.int (1 : Int32)), (.ref r27)])
  have V_r_81 := (V_r_66.other W71 ne_r_r13)
  obtain ⟨cl82, Ar82, q82, S82, N_82, H82, G82⟩ := id V_r_81
  have hin83 : ¬ ((1 : Int32) < 0 ∨ cl82.slots.size ≤ ((1 : Int32)).toNatClampNeg) := inb_of S82 ⟨by decide, by decide⟩
  have hat83 : cl82.slots[((1 : Int32)).toNatClampNeg]? = some (.int y1) := H82.at hin83 rfl
  refine Goes.step ?_ (fun _ k => X80.iaload hx (j := (1 : Int32)) (v := (.int y1)) (by rw [e80]; exact Ar82.1) (State.isArrayOf_alike hZ.alike Ar82.2.1) Ar82.2.2 hin83 hat83 (g := (mkF m 75 #[rv a1, rv r, iv (1 : Int32)] [(.int (1 : Int32)), (.ref r), (.int (1 : Int32)), (.ref r27)])) rfl rfl (hb hby d7_75) _ k)
  show Goes p e below _ (sF T80 m 76 #[rv a1, rv r, iv (1 : Int32)] [(.int y1), (.int (1 : Int32)), (.ref r27)])
  have V_r27_84 := (((V_r27_52.ext E46).other W55 (Ne.symm ne_gA_r27)).other W71 (Ne.symm ne_r13_r27))
  obtain ⟨cl85, Ar85, q85, S85, N_85, H85, G85⟩ := id V_r27_84
  have hin86 : ¬ ((1 : Int32) < 0 ∨ cl85.slots.size ≤ ((1 : Int32)).toNatClampNeg) := inb_of S85 ⟨by decide, by decide⟩
  obtain ⟨T86, h86, X86, e86, W86, st86⟩ := stI X80 hx hZ e80 Ar85 (j := (1 : Int32)) hin86 (g := (mkF m 76 #[rv a1, rv r, iv (1 : Int32)] [(.int y1), (.int (1 : Int32)), (.ref r27)])) rfl rfl (hb hby d7_76)
  have V_86 : Arv Z h86 r27 kr27 .int (2 : Int32) [(.int d1_0), (.int y1)] (.int (0 : Int32)) := Arv.set Ar85 q85 S85 N_85 H85 G85 rfl W86 1 rfl (Nat.le_of_ble_eq_true rfl)
  have Zs86 : n0 ≤ h86.size := Nat.le_trans Zs71 (Keep.of_wr W86).1
  have N86 := Fr.snoc X86 N71 g_r27
  refine Goes.step ?_ st86
  show Goes p e below _ (sF T86 m 77 #[rv a1, rv r, iv (1 : Int32)] [])
  refine Goes.step ?_ (fun _ k => XS.iinc X86.here hx rfl (hb hby d7_77) rfl (l' := #[rv a1, rv r, iv ((1 : Int32) + (1 : Int32))]) rfl k)
  show Goes p e below _ (sF T86 m 80 #[rv a1, rv r, iv ((1 : Int32) + (1 : Int32))] [])
  rw [show ((1 : Int32) + (1 : Int32)) = (2 : Int32) from by decide]
  show Goes p e below _ (sF T86 m 80 #[rv a1, rv r, iv (2 : Int32)] [])
  refine Goes.step ?_ (fun _ k => XS.goto X86.here hx rfl (pc0 := 80) (pc' := 54) rfl (hb hby d7_80) (by decide) (by decide) k)
  show Goes p e below _ (sF T86 m 54 #[rv a1, rv r, iv (2 : Int32)] [])
  refine Goes.step ?_ (fun _ k => XS.iloadN X86.here hx rfl (hb hby d7_54) rfl  k)
  show Goes p e below _ (sF T86 m 55 #[rv a1, rv r, iv (2 : Int32)] [(.int (2 : Int32))])
  refine Goes.step ?_ (fun _ k => XS.aloadN X86.here hx rfl (hb hby d7_55) rfl rfl k)
  show Goes p e below _ (sF T86 m 56 #[rv a1, rv r, iv (2 : Int32)] [(.ref a1), (.int (2 : Int32))])
  have F_a1_columns_87 := (F_a1_columns_72.other W86 (Or.inl ne_a1_r27))
  obtain ⟨T88, X88, e88, st88⟩ := getF X86 hx hZ hown (host := "") (Or.inl (hw _ (List.mem_of_getElem? (i := 12) rfl))) Via.refl e86 F_a1_columns_87 (g := (mkF m 56 #[rv a1, rv r, iv (2 : Int32)] [(.ref a1), (.int (2 : Int32))])) rfl rfl (hb hby d7_56)
  refine Goes.step ?_ st88
  show Goes p e below _ (sF T88 m 59 #[rv a1, rv r, iv (2 : Int32)] [(.ref gA), (.int (2 : Int32))])
  have V_gA_89 := (V_gA_74.other W86 ne_gA_r27)
  obtain ⟨cl90, Ar90, q90, S90, N_90, H90, G90⟩ := id V_gA_89
  refine Goes.step ?_ (fun _ k => X88.arraylength hx (by rw [e88]; exact Ar90.1) (State.isArrayOf_alike hZ.alike Ar90.2.1) (g := (mkF m 59 #[rv a1, rv r, iv (2 : Int32)] [(.ref gA), (.int (2 : Int32))])) rfl rfl (hb hby d7_59) _ k)
  rw [len_of S90 N_90]
  show Goes p e below _ (sF T88 m 60 #[rv a1, rv r, iv (2 : Int32)] [(.int (3 : Int32)), (.int (2 : Int32))])
  refine Goes.step ?_ (fun _ k => XS.icmpNo X88.here hx rfl (hb hby d7_60) rfl (tlt (by decide : (2 : Int32) < (3 : Int32))).2.1 k)
  show Goes p e below _ (sF T88 m 63 #[rv a1, rv r, iv (2 : Int32)] [])
  refine Goes.step ?_ (fun _ k => XS.aloadN X88.here hx rfl (hb hby d7_63) rfl rfl k)
  show Goes p e below _ (sF T88 m 64 #[rv a1, rv r, iv (2 : Int32)] [(.ref a1)])
  obtain ⟨T91, X91, e91, st91⟩ := getF X88 hx hZ hown (host := "") (Or.inl (hw _ (List.mem_of_getElem? (i := 12) rfl))) Via.refl e88 F_a1_columns_87 (g := (mkF m 64 #[rv a1, rv r, iv (2 : Int32)] [(.ref a1)])) rfl rfl (hb hby d7_64)
  refine Goes.step ?_ st91
  show Goes p e below _ (sF T91 m 67 #[rv a1, rv r, iv (2 : Int32)] [(.ref gA)])
  refine Goes.step ?_ (fun _ k => XS.iloadN X91.here hx rfl (hb hby d7_67) rfl  k)
  show Goes p e below _ (sF T91 m 68 #[rv a1, rv r, iv (2 : Int32)] [(.int (2 : Int32)), (.ref gA)])
  obtain ⟨cl92, Ar92, q92, S92, N_92, H92, G92⟩ := id V_gA_89
  have hin93 : ¬ ((2 : Int32) < 0 ∨ cl92.slots.size ≤ ((2 : Int32)).toNatClampNeg) := inb_of S92 ⟨by decide, by decide⟩
  have hat93 : cl92.slots[((2 : Int32)).toNatClampNeg]? = some (.ref r46) := H92.at hin93 rfl
  refine Goes.step ?_ (fun _ k => X91.aaload hx (j := (2 : Int32)) (v := (.ref r46)) (by rw [e91]; exact Ar92.1) (State.isArrayOf_alike hZ.alike Ar92.2.1) rfl Ar92.2.2 hin93 hat93 (g := (mkF m 68 #[rv a1, rv r, iv (2 : Int32)] [(.int (2 : Int32)), (.ref gA)])) rfl rfl (hb hby d7_68) _ k)
  show Goes p e below _ (sF T91 m 69 #[rv a1, rv r, iv (2 : Int32)] [(.ref r46)])
  refine Goes.step ?_ (fun _ k => XS.aloadN X91.here hx rfl (hb hby d7_69) rfl rfl k)
  show Goes p e below _ (sF T91 m 70 #[rv a1, rv r, iv (2 : Int32)] [(.ref a1), (.ref r46)])
  have F_a1_size_94 := (F_a1_size_79.other W86 (Or.inl ne_a1_r27))
  obtain ⟨T95, X95, e95, st95⟩ := getF X91 hx hZ hown (host := "") (Or.inl (hw _ (List.mem_of_getElem? (i := 19) rfl))) Via.refl e91 F_a1_size_94 (g := (mkF m 70 #[rv a1, rv r, iv (2 : Int32)] [(.ref a1), (.ref r46)])) rfl rfl (hb hby d7_70)
  refine Goes.step ?_ st95
  show Goes p e below _ (sF T95 m 73 #[rv a1, rv r, iv (2 : Int32)] [(.int (1 : Int32)), (.ref r46)])
  refine Goes.step ?_ (fun _ k => XS.aloadN X95.here hx rfl (hb hby d7_73) rfl rfl k)
  show Goes p e below _ (sF T95 m 74 #[rv a1, rv r, iv (2 : Int32)] [(.ref r), (.int (1 : Int32)), (.ref r46)])
  refine Goes.step ?_ (fun _ k => XS.iloadN X95.here hx rfl (hb hby d7_74) rfl  k)
  show Goes p e below _ (sF T95 m 75 #[rv a1, rv r, iv (2 : Int32)] [(.int (2 : Int32)), (.ref r), (.int (1 : Int32)), (.ref r46)])
  have V_r_96 := (V_r_81.other W86 ne_r_r27)
  obtain ⟨cl97, Ar97, q97, S97, N_97, H97, G97⟩ := id V_r_96
  have hin98 : ¬ ((2 : Int32) < 0 ∨ cl97.slots.size ≤ ((2 : Int32)).toNatClampNeg) := inb_of S97 ⟨by decide, by decide⟩
  have hat98 : cl97.slots[((2 : Int32)).toNatClampNeg]? = some (.int y2) := H97.at hin98 rfl
  refine Goes.step ?_ (fun _ k => X95.iaload hx (j := (2 : Int32)) (v := (.int y2)) (by rw [e95]; exact Ar97.1) (State.isArrayOf_alike hZ.alike Ar97.2.1) Ar97.2.2 hin98 hat98 (g := (mkF m 75 #[rv a1, rv r, iv (2 : Int32)] [(.int (2 : Int32)), (.ref r), (.int (1 : Int32)), (.ref r46)])) rfl rfl (hb hby d7_75) _ k)
  show Goes p e below _ (sF T95 m 76 #[rv a1, rv r, iv (2 : Int32)] [(.int y2), (.int (1 : Int32)), (.ref r46)])
  have V_r46_99 := (((Vr46.other W55 (Ne.symm ne_gA_r46)).other W71 (Ne.symm ne_r13_r46)).other W86 (Ne.symm ne_r27_r46))
  obtain ⟨cl100, Ar100, q100, S100, N_100, H100, G100⟩ := id V_r46_99
  have hin101 : ¬ ((1 : Int32) < 0 ∨ cl100.slots.size ≤ ((1 : Int32)).toNatClampNeg) := inb_of S100 ⟨by decide, by decide⟩
  obtain ⟨T101, h101, X101, e101, W101, st101⟩ := stI X95 hx hZ e95 Ar100 (j := (1 : Int32)) hin101 (g := (mkF m 76 #[rv a1, rv r, iv (2 : Int32)] [(.int y2), (.int (1 : Int32)), (.ref r46)])) rfl rfl (hb hby d7_76)
  have V_101 : Arv Z h101 r46 kr46 .int (2 : Int32) [(.int d2_0), (.int y2)] (.int (0 : Int32)) := Arv.set Ar100 q100 S100 N_100 H100 G100 rfl W101 1 rfl (Nat.le_of_ble_eq_true rfl)
  have Zs101 : n0 ≤ h101.size := Nat.le_trans Zs86 (Keep.of_wr W101).1
  have N101 := Fr.snoc X101 N86 g_r46
  refine Goes.step ?_ st101
  show Goes p e below _ (sF T101 m 77 #[rv a1, rv r, iv (2 : Int32)] [])
  refine Goes.step ?_ (fun _ k => XS.iinc X101.here hx rfl (hb hby d7_77) rfl (l' := #[rv a1, rv r, iv ((2 : Int32) + (1 : Int32))]) rfl k)
  show Goes p e below _ (sF T101 m 80 #[rv a1, rv r, iv ((2 : Int32) + (1 : Int32))] [])
  rw [show ((2 : Int32) + (1 : Int32)) = (3 : Int32) from by decide]
  show Goes p e below _ (sF T101 m 80 #[rv a1, rv r, iv (3 : Int32)] [])
  refine Goes.step ?_ (fun _ k => XS.goto X101.here hx rfl (pc0 := 80) (pc' := 54) rfl (hb hby d7_80) (by decide) (by decide) k)
  show Goes p e below _ (sF T101 m 54 #[rv a1, rv r, iv (3 : Int32)] [])
  refine Goes.step ?_ (fun _ k => XS.iloadN X101.here hx rfl (hb hby d7_54) rfl  k)
  show Goes p e below _ (sF T101 m 55 #[rv a1, rv r, iv (3 : Int32)] [(.int (3 : Int32))])
  refine Goes.step ?_ (fun _ k => XS.aloadN X101.here hx rfl (hb hby d7_55) rfl rfl k)
  show Goes p e below _ (sF T101 m 56 #[rv a1, rv r, iv (3 : Int32)] [(.ref a1), (.int (3 : Int32))])
  have F_a1_columns_102 := (F_a1_columns_87.other W101 (Or.inl ne_a1_r46))
  obtain ⟨T103, X103, e103, st103⟩ := getF X101 hx hZ hown (host := "") (Or.inl (hw _ (List.mem_of_getElem? (i := 12) rfl))) Via.refl e101 F_a1_columns_102 (g := (mkF m 56 #[rv a1, rv r, iv (3 : Int32)] [(.ref a1), (.int (3 : Int32))])) rfl rfl (hb hby d7_56)
  refine Goes.step ?_ st103
  show Goes p e below _ (sF T103 m 59 #[rv a1, rv r, iv (3 : Int32)] [(.ref gA), (.int (3 : Int32))])
  have V_gA_104 := (V_gA_89.other W101 ne_gA_r46)
  obtain ⟨cl105, Ar105, q105, S105, N_105, H105, G105⟩ := id V_gA_104
  refine Goes.step ?_ (fun _ k => X103.arraylength hx (by rw [e103]; exact Ar105.1) (State.isArrayOf_alike hZ.alike Ar105.2.1) (g := (mkF m 59 #[rv a1, rv r, iv (3 : Int32)] [(.ref gA), (.int (3 : Int32))])) rfl rfl (hb hby d7_59) _ k)
  rw [len_of S105 N_105]
  show Goes p e below _ (sF T103 m 60 #[rv a1, rv r, iv (3 : Int32)] [(.int (3 : Int32)), (.int (3 : Int32))])
  refine Goes.step ?_ (fun _ k => XS.icmpYes X103.here hx rfl (pc0 := 60) (pc' := 83) rfl (hb hby d7_60) rfl (flt (by decide : ¬ ((3 : Int32) < (3 : Int32)))).2.1 (by decide) (by decide) k)
  show Goes p e below _ (sF T103 m 83 #[rv a1, rv r, iv (3 : Int32)] [])
  refine Goes.step ?_ (fun _ k => XS.aloadN X103.here hx rfl (hb hby d7_83) rfl rfl k)
  show Goes p e below _ (sF T103 m 84 #[rv a1, rv r, iv (3 : Int32)] [(.ref a1)])
  refine Goes.step ?_ (fun _ k => XS.dup X103.here hx rfl (hb hby d7_84) rfl rfl k)
  show Goes p e below _ (sF T103 m 85 #[rv a1, rv r, iv (3 : Int32)] [(.ref a1), (.ref a1)])
  have F_a1_size_106 := (F_a1_size_94.other W101 (Or.inl ne_a1_r46))
  obtain ⟨T107, X107, e107, st107⟩ := getF X103 hx hZ hown (host := "") (Or.inl (hw _ (List.mem_of_getElem? (i := 19) rfl))) Via.refl e103 F_a1_size_106 (g := (mkF m 85 #[rv a1, rv r, iv (3 : Int32)] [(.ref a1), (.ref a1)])) rfl rfl (hb hby d7_85)
  refine Goes.step ?_ st107
  show Goes p e below _ (sF T107 m 88 #[rv a1, rv r, iv (3 : Int32)] [(.int (1 : Int32)), (.ref a1)])
  refine Goes.step ?_ (fun _ k => XS.iconst X107.here hx rfl (hb hby d7_88) k)
  show Goes p e below _ (sF T107 m 89 #[rv a1, rv r, iv (3 : Int32)] [(.int (1 : Int32)), (.int (1 : Int32)), (.ref a1)])
  refine Goes.step ?_ (fun _ k => XS.iadd X107.here hx rfl (hb hby d7_89) rfl k)
  show Goes p e below _ (sF T107 m 90 #[rv a1, rv r, iv (3 : Int32)] [(.int ((1 : Int32) + (1 : Int32))), (.ref a1)])
  rw [show ((1 : Int32) + (1 : Int32)) = (2 : Int32) from by decide]
  show Goes p e below _ (sF T107 m 90 #[rv a1, rv r, iv (3 : Int32)] [(.int (2 : Int32)), (.ref a1)])
  have E_a1_109 := (((((((((E_a1.ext E13).wr W16).ext E27).wr W35).ext E46).wr W55).wr W71).wr W86).wr W101)
  obtain ⟨T108, h108, X108, e108, W108, st108⟩ := putF X107 hx hZ hown (host := "") (Or.inl (hw _ (List.mem_of_getElem? (i := 19) rfl))) Via.refl e107 F_a1_size_106 E_a1_109 (Or.inl (hw _ (List.mem_of_getElem? (i := 20) rfl))) (hw _ (List.mem_of_getElem? (i := 2) rfl)) (ty := .int) (by decide) rfl rfl (g := (mkF m 90 #[rv a1, rv r, iv (3 : Int32)] [(.int (2 : Int32)), (.ref a1)])) rfl rfl (hb hby d7_90)
  have Fw108 := F_a1_size_106.same W108
  have Zs108 : n0 ≤ h108.size := Nat.le_trans Zs101 (Keep.of_wr W108).1
  have N108 := Fr.snoc X108 N101 g_a1
  refine Goes.step ?_ st108
  show Goes p e below _ (sF T108 m 93 #[rv a1, rv r, iv (3 : Int32)] [])
  refine own_outV X108 hx hlk hret (hb hby d7_93) ?_ (by decide) (by decide)
  show QAdd3_1 Z a1 gA kA y0 y1 y2 d0_0 d1_0 d2_0 h0 n0 _ T108.heap _
  rw [e108]
  exact ⟨r13, r27, r46, kr13, kr27, kr46, rfl, N108, ((((((K_47.ext E46).wr W55 (Or.inl (List.mem_of_getElem? (i := 1) rfl))).wr W71 (Or.inr sz_r13)).wr W86 (Or.inr sz_r27)).wr W101 (Or.inr sz_r46)).wr W108 (Or.inl (List.mem_of_getElem? (i := 0) rfl))), (F_a1_columns_102.other W108 (Or.inr (slot_ne (Or.inr (hw _ (List.mem_of_getElem? (i := 13) rfl))) (Or.inl (hw _ (List.mem_of_getElem? (i := 20) rfl))) (by decide) (t := (.array (.array .int))) (t' := .int) (by decide) (by decide)))), Fw108, (V_gA_104.other W108 (Ne.symm ne_a1_gA)), (((V_71.other W86 ne_r13_r27).other W101 ne_r13_r46).other W108 (Ne.symm ne_a1_r13)), (((((((((A13.wr W16).ext E27).wr W35).ext E46).wr W55).wr W71).wr W86).wr W101).wr W108), ((V_86.other W101 ne_r27_r46).other W108 (Ne.symm ne_a1_r27)), (((((((A27.wr W35).ext E46).wr W55).wr W71).wr W86).wr W101).wr W108), (V_101.other W108 (Ne.symm ne_a1_r46)), (((((A46.wr W55).wr W71).wr W86).wr W101).wr W108), sz_r13, sz_r27, sz_r46, ne_r13_r27, ne_r13_r46, ne_r27_r46⟩
def QAdd3_2 (Z : State) (a1 gA : Addr) (kA : ClassId) (y0 y1 y2 : Int32) (d0_0 : Int32) (d0_1 : Int32) (d1_0 : Int32) (d1_1 : Int32) (d2_0 : Int32) (d2_1 : Int32) (h0 : Heap) (n0 : Nat) (v : Option Value) (h : Heap) (L : List Loc) : Prop := ∃ (z0 z1 z2 : Addr) (kz0 kz1 kz2 : ClassId), v = none ∧ Fr n0 L ∧ Keep h0 h [a1, gA] ∧ Fld Z h a1 "com/example/clio/clio/repository/Columns" "columns" "[[I" (.ref gA) ∧ Fld Z h a1 "com/example/clio/clio/repository/Columns" "size" "I" (.int (3 : Int32)) ∧ Arv Z h gA kA (.array .int) (3 : Int32) [(.ref z0), (.ref z1), (.ref z2)] .null ∧ Arv Z h z0 kz0 .int (4 : Int32) [(.int d0_0), (.int d0_1), (.int y0), (.int (0 : Int32))] (.int (0 : Int32)) ∧ Exa Z h z0 "[I" ∧ Arv Z h z1 kz1 .int (4 : Int32) [(.int d1_0), (.int d1_1), (.int y1), (.int (0 : Int32))] (.int (0 : Int32)) ∧ Exa Z h z1 "[I" ∧ Arv Z h z2 kz2 .int (4 : Int32) [(.int d2_0), (.int d2_1), (.int y2), (.int (0 : Int32))] (.int (0 : Int32)) ∧ Exa Z h z2 "[I" ∧ h0.size ≤ z0 ∧ h0.size ≤ z1 ∧ h0.size ≤ z2 ∧ z0 ≠ z1 ∧ z0 ≠ z2 ∧ z1 ≠ z2
set_option maxRecDepth 65536 in
set_option maxHeartbeats 40000000 in
theorem rmAdd3_2 (l : Launch) (Z : State) (a0 : Array Value) (hw : ∀ d ∈ tables_1, d.before a0 Z = true) (ws : List Jvm.Cond) (a1 : Addr) (r : Addr) (gA : Addr) (kA : ClassId) (kr : ClassId) (y0 : Int32) (y1 : Int32) (y2 : Int32) (x0 : Addr) (x1 : Addr) (x2 : Addr) (kx0 : ClassId) (kx1 : ClassId) (kx2 : ClassId) (d0_0 : Int32) (d0_1 : Int32) (d1_0 : Int32) (d1_1 : Int32) (d2_0 : Int32) (d2_1 : Int32) (h0 : Heap) (n0 : Nat) (Z0 : n0 ≤ h0.size) (F_columns : Fld Z h0 a1 "com/example/clio/clio/repository/Columns" "columns" "[[I" (.ref gA)) (F_size : Fld Z h0 a1 "com/example/clio/clio/repository/Columns" "size" "I" (.int (2 : Int32))) (E_a1 : Exa Z h0 a1 "com/example/clio/clio/repository/Columns") (V_gA : Arv Z h0 gA kA (.array .int) (3 : Int32) [(.ref x0), (.ref x1), (.ref x2)] .null) (Ov : OvrA Z kA .int "[I") (V_r : Arv Z h0 r kr .int (3 : Int32) [(.int y0), (.int y1), (.int y2)] (.int (0 : Int32))) (V_x0 : Arv Z h0 x0 kx0 .int (2 : Int32) [(.int d0_0), (.int d0_1)] (.int (0 : Int32))) (E_x0 : Exa Z h0 x0 "[I") (V_x1 : Arv Z h0 x1 kx1 .int (2 : Int32) [(.int d1_0), (.int d1_1)] (.int (0 : Int32))) (E_x1 : Exa Z h0 x1 "[I") (V_x2 : Arv Z h0 x2 kx2 .int (2 : Int32) [(.int d2_0), (.int d2_1)] (.int (0 : Int32))) (E_x2 : Exa Z h0 x2 "[I") (ne_a1_r : a1 ≠ r) (ne_a1_gA : a1 ≠ gA) (ne_a1_x0 : a1 ≠ x0) (ne_a1_x1 : a1 ≠ x1) (ne_a1_x2 : a1 ≠ x2) (ne_r_gA : r ≠ gA) (ne_r_x0 : r ≠ x0) (ne_r_x1 : r ≠ x1) (ne_r_x2 : r ≠ x2) (ne_gA_x0 : gA ≠ x0) (ne_gA_x1 : gA ≠ x1) (ne_gA_x2 : gA ≠ x2) (ne_x0_x1 : x0 ≠ x1) (ne_x0_x2 : x0 ≠ x2) (ne_x1_x2 : x1 ≠ x2) (g_a1 : n0 ≤ a1) (g_gA : n0 ≤ gA) (g_x0 : n0 ≤ x0) (g_x1 : n0 ≤ x1) (g_x2 : n0 ≤ x2) :
    MetFree l (⟨"com/example/clio/clio/repository/Columns", "add", "([I)V"⟩ : MethodName) (head1 (Jvm.Cond.code (⟨"com/example/clio/clio/repository/Columns", "add", "([I)V"⟩ : MethodName) prog_22_method_2_code 3 none :: ws) ({ frames := 2, cells := 3, slots := 12, locals := 34 } : Room)) (fun a U => a = #[(.ref a1), (.ref r)] ∧ Z.Warmed39 U.vm ∧ U.heap = h0) (fun _ _ _ _ _ => True) (fun _ U o U' => ∃ v L, o = .returned v ∧ QAdd3_2 Z a1 gA kA y0 y1 y2 d0_0 d0_1 d1_0 d1_1 d2_0 d2_1 h0 n0 v U'.heap L ∧ FrameEnd U o U' L ({ frames := 2, cells := 3, slots := 12, locals := 34 } : Room).cells ({ frames := 2, cells := 3, slots := 12, locals := 34 } : Room).slots) := by
  refine MetFree.of_bodySF (plainFor_of_name pn_com_example_clio_clio_repository_Columns) hisR ?_
  intro p e s m args below meth c s₁ Bd hml0 hP hK
  obtain ⟨rfl, hZ, hh⟩ := hP
  have hx := Bd.exec
  have hby := Bd.bytes
  have hlk : meth.locks = false := BodyLoose.notSynchronized Bd
  have hml : c.maxLocals = 3 := hml0
  have hown : s.vm.findClass "com/example/clio/clio/repository/Columns" = some m.cls := findClass_of_methodNamed Bd.named
  have hnm := (name_of_methodNamed Bd.named Bd.method).1
  have X0 : Stand p l e ({ frames := 2, cells := 3, slots := 12, locals := 34 } : Room) s m #[(.ref a1), (.ref r)] below meth c s₁ [] 0 0 := Stand.of_body Bd
  have e0 : s₁.heap = h0 := by rw [← hh, Bd.state]; rfl
  have N0 := Fr.nil n0
  have hret := Bd.returns
  show Goes p e below (fun o U' => ∃ v L, o = .returned v ∧ QAdd3_2 Z a1 gA kA y0 y1 y2 d0_0 d0_1 d1_0 d1_1 d2_0 d2_1 h0 n0 v U'.heap L ∧ FrameEnd s o U' L ({ frames := 2, cells := 3, slots := 12, locals := 34 } : Room).cells ({ frames := 2, cells := 3, slots := 12, locals := 34 } : Room).slots) (s₁.setTop (entryFrame m #[(.ref a1), (.ref r)] 3))
  refine Goes.step ?_ (fun _ k => castTop (ef_add m a1 r) k)
  show Goes p e below _ (sF s₁ m 0 #[rv a1, rv r, .unset] [])
  refine Goes.step ?_ (fun _ k => XS.aloadN X0.here hx rfl (hb hby d7_0) rfl rfl k)
  show Goes p e below _ (sF s₁ m 1 #[rv a1, rv r, .unset] [(.ref a1)])
  obtain ⟨T1, X1, e1, st1⟩ := getF X0 hx hZ hown (host := "") (Or.inl (hw _ (List.mem_of_getElem? (i := 19) rfl))) Via.refl e0 F_size (g := (mkF m 1 #[rv a1, rv r, .unset] [(.ref a1)])) rfl rfl (hb hby d7_1)
  refine Goes.step ?_ st1
  show Goes p e below _ (sF T1 m 4 #[rv a1, rv r, .unset] [(.int (2 : Int32))])
  refine Goes.step ?_ (fun _ k => XS.aloadN X1.here hx rfl (hb hby d7_4) rfl rfl k)
  show Goes p e below _ (sF T1 m 5 #[rv a1, rv r, .unset] [(.ref a1), (.int (2 : Int32))])
  obtain ⟨T2, X2, e2, st2⟩ := getF X1 hx hZ hown (host := "") (Or.inl (hw _ (List.mem_of_getElem? (i := 12) rfl))) Via.refl e1 F_columns (g := (mkF m 5 #[rv a1, rv r, .unset] [(.ref a1), (.int (2 : Int32))])) rfl rfl (hb hby d7_5)
  refine Goes.step ?_ st2
  show Goes p e below _ (sF T2 m 8 #[rv a1, rv r, .unset] [(.ref gA), (.int (2 : Int32))])
  refine Goes.step ?_ (fun _ k => XS.iconst X2.here hx rfl (hb hby d7_8) k)
  show Goes p e below _ (sF T2 m 9 #[rv a1, rv r, .unset] [(.int (0 : Int32)), (.ref gA), (.int (2 : Int32))])
  obtain ⟨cl3, Ar3, q3, S3, N_3, H3, G3⟩ := id V_gA
  have hin4 : ¬ ((0 : Int32) < 0 ∨ cl3.slots.size ≤ ((0 : Int32)).toNatClampNeg) := inb_of S3 ⟨by decide, by decide⟩
  have hat4 : cl3.slots[((0 : Int32)).toNatClampNeg]? = some (.ref x0) := H3.at hin4 rfl
  refine Goes.step ?_ (fun _ k => X2.aaload hx (j := (0 : Int32)) (v := (.ref x0)) (by rw [e2]; exact Ar3.1) (State.isArrayOf_alike hZ.alike Ar3.2.1) rfl Ar3.2.2 hin4 hat4 (g := (mkF m 9 #[rv a1, rv r, .unset] [(.int (0 : Int32)), (.ref gA), (.int (2 : Int32))])) rfl rfl (hb hby d7_9) _ k)
  show Goes p e below _ (sF T2 m 10 #[rv a1, rv r, .unset] [(.ref x0), (.int (2 : Int32))])
  obtain ⟨cl5, Ar5, q5, S5, N_5, H5, G5⟩ := id V_x0
  refine Goes.step ?_ (fun _ k => X2.arraylength hx (by rw [e2]; exact Ar5.1) (State.isArrayOf_alike hZ.alike Ar5.2.1) (g := (mkF m 10 #[rv a1, rv r, .unset] [(.ref x0), (.int (2 : Int32))])) rfl rfl (hb hby d7_10) _ k)
  rw [len_of S5 N_5]
  show Goes p e below _ (sF T2 m 11 #[rv a1, rv r, .unset] [(.int (2 : Int32)), (.int (2 : Int32))])
  refine Goes.step ?_ (fun _ k => XS.icmpNo X2.here hx rfl (hb hby d7_11) rfl (teq (by decide : (2 : Int32) = (2 : Int32))).2 k)
  show Goes p e below _ (sF T2 m 14 #[rv a1, rv r, .unset] [])
  refine Goes.step ?_ (fun _ k => XS.iconst X2.here hx rfl (hb hby d7_14) k)
  show Goes p e below _ (sF T2 m 15 #[rv a1, rv r, .unset] [(.int (0 : Int32))])
  refine Goes.step ?_ (fun _ k => XS.istoreN X2.here hx rfl (hb hby d7_15) rfl (l' := #[rv a1, rv r, iv (0 : Int32)]) rfl k)
  show Goes p e below _ (sF T2 m 16 #[rv a1, rv r, iv (0 : Int32)] [])
  refine Goes.step ?_ (fun _ k => XS.iloadN X2.here hx rfl (hb hby d7_16) rfl  k)
  show Goes p e below _ (sF T2 m 17 #[rv a1, rv r, iv (0 : Int32)] [(.int (0 : Int32))])
  refine Goes.step ?_ (fun _ k => XS.aloadN X2.here hx rfl (hb hby d7_17) rfl rfl k)
  show Goes p e below _ (sF T2 m 18 #[rv a1, rv r, iv (0 : Int32)] [(.ref a1), (.int (0 : Int32))])
  obtain ⟨T6, X6, e6, st6⟩ := getF X2 hx hZ hown (host := "") (Or.inl (hw _ (List.mem_of_getElem? (i := 12) rfl))) Via.refl e2 F_columns (g := (mkF m 18 #[rv a1, rv r, iv (0 : Int32)] [(.ref a1), (.int (0 : Int32))])) rfl rfl (hb hby d7_18)
  refine Goes.step ?_ st6
  show Goes p e below _ (sF T6 m 21 #[rv a1, rv r, iv (0 : Int32)] [(.ref gA), (.int (0 : Int32))])
  obtain ⟨cl7, Ar7, q7, S7, N_7, H7, G7⟩ := id V_gA
  refine Goes.step ?_ (fun _ k => X6.arraylength hx (by rw [e6]; exact Ar7.1) (State.isArrayOf_alike hZ.alike Ar7.2.1) (g := (mkF m 21 #[rv a1, rv r, iv (0 : Int32)] [(.ref gA), (.int (0 : Int32))])) rfl rfl (hb hby d7_21) _ k)
  rw [len_of S7 N_7]
  show Goes p e below _ (sF T6 m 22 #[rv a1, rv r, iv (0 : Int32)] [(.int (3 : Int32)), (.int (0 : Int32))])
  refine Goes.step ?_ (fun _ k => XS.icmpNo X6.here hx rfl (hb hby d7_22) rfl (tlt (by decide : (0 : Int32) < (3 : Int32))).2.1 k)
  show Goes p e below _ (sF T6 m 25 #[rv a1, rv r, iv (0 : Int32)] [])
  refine Goes.step ?_ (fun _ k => XS.aloadN X6.here hx rfl (hb hby d7_25) rfl rfl k)
  show Goes p e below _ (sF T6 m 26 #[rv a1, rv r, iv (0 : Int32)] [(.ref a1)])
  obtain ⟨T8, X8, e8, st8⟩ := getF X6 hx hZ hown (host := "") (Or.inl (hw _ (List.mem_of_getElem? (i := 12) rfl))) Via.refl e6 F_columns (g := (mkF m 26 #[rv a1, rv r, iv (0 : Int32)] [(.ref a1)])) rfl rfl (hb hby d7_26)
  refine Goes.step ?_ st8
  show Goes p e below _ (sF T8 m 29 #[rv a1, rv r, iv (0 : Int32)] [(.ref gA)])
  refine Goes.step ?_ (fun _ k => XS.iloadN X8.here hx rfl (hb hby d7_29) rfl  k)
  show Goes p e below _ (sF T8 m 30 #[rv a1, rv r, iv (0 : Int32)] [(.int (0 : Int32)), (.ref gA)])
  refine Goes.step ?_ (fun _ k => XS.aloadN X8.here hx rfl (hb hby d7_30) rfl rfl k)
  show Goes p e below _ (sF T8 m 31 #[rv a1, rv r, iv (0 : Int32)] [(.ref a1), (.int (0 : Int32)), (.ref gA)])
  obtain ⟨T9, X9, e9, st9⟩ := getF X8 hx hZ hown (host := "") (Or.inl (hw _ (List.mem_of_getElem? (i := 12) rfl))) Via.refl e8 F_columns (g := (mkF m 31 #[rv a1, rv r, iv (0 : Int32)] [(.ref a1), (.int (0 : Int32)), (.ref gA)])) rfl rfl (hb hby d7_31)
  refine Goes.step ?_ st9
  show Goes p e below _ (sF T9 m 34 #[rv a1, rv r, iv (0 : Int32)] [(.ref gA), (.int (0 : Int32)), (.ref gA)])
  refine Goes.step ?_ (fun _ k => XS.iloadN X9.here hx rfl (hb hby d7_34) rfl  k)
  show Goes p e below _ (sF T9 m 35 #[rv a1, rv r, iv (0 : Int32)] [(.int (0 : Int32)), (.ref gA), (.int (0 : Int32)), (.ref gA)])
  obtain ⟨cl10, Ar10, q10, S10, N_10, H10, G10⟩ := id V_gA
  have hin11 : ¬ ((0 : Int32) < 0 ∨ cl10.slots.size ≤ ((0 : Int32)).toNatClampNeg) := inb_of S10 ⟨by decide, by decide⟩
  have hat11 : cl10.slots[((0 : Int32)).toNatClampNeg]? = some (.ref x0) := H10.at hin11 rfl
  refine Goes.step ?_ (fun _ k => X9.aaload hx (j := (0 : Int32)) (v := (.ref x0)) (by rw [e9]; exact Ar10.1) (State.isArrayOf_alike hZ.alike Ar10.2.1) rfl Ar10.2.2 hin11 hat11 (g := (mkF m 35 #[rv a1, rv r, iv (0 : Int32)] [(.int (0 : Int32)), (.ref gA), (.int (0 : Int32)), (.ref gA)])) rfl rfl (hb hby d7_35) _ k)
  show Goes p e below _ (sF T9 m 36 #[rv a1, rv r, iv (0 : Int32)] [(.ref x0), (.int (0 : Int32)), (.ref gA)])
  refine Goes.step ?_ (fun _ k => XS.aloadN X9.here hx rfl (hb hby d7_36) rfl rfl k)
  show Goes p e below _ (sF T9 m 37 #[rv a1, rv r, iv (0 : Int32)] [(.ref a1), (.ref x0), (.int (0 : Int32)), (.ref gA)])
  obtain ⟨T12, X12, e12, st12⟩ := getF X9 hx hZ hown (host := "") (Or.inl (hw _ (List.mem_of_getElem? (i := 19) rfl))) Via.refl e9 F_size (g := (mkF m 37 #[rv a1, rv r, iv (0 : Int32)] [(.ref a1), (.ref x0), (.int (0 : Int32)), (.ref gA)])) rfl rfl (hb hby d7_37)
  refine Goes.step ?_ st12
  show Goes p e below _ (sF T12 m 40 #[rv a1, rv r, iv (0 : Int32)] [(.int (2 : Int32)), (.ref x0), (.int (0 : Int32)), (.ref gA)])
  refine Goes.step ?_ (fun _ k => XS.iconst X12.here hx rfl (hb hby d7_40) k)
  show Goes p e below _ (sF T12 m 41 #[rv a1, rv r, iv (0 : Int32)] [(.int (2 : Int32)), (.int (2 : Int32)), (.ref x0), (.int (0 : Int32)), (.ref gA)])
  refine Goes.step ?_ (fun _ k => XS.imul X12.here hx rfl (hb hby d7_41) rfl k)
  show Goes p e below _ (sF T12 m 42 #[rv a1, rv r, iv (0 : Int32)] [(.int ((2 : Int32) * (2 : Int32))), (.ref x0), (.int (0 : Int32)), (.ref gA)])
  rw [show ((2 : Int32) * (2 : Int32)) = (4 : Int32) from by decide]
  show Goes p e below _ (sF T12 m 42 #[rv a1, rv r, iv (0 : Int32)] [(.int (4 : Int32)), (.ref x0), (.int (0 : Int32)), (.ref gA)])
  obtain ⟨_, _, ⟨T13, L13, k13, n13⟩, -, X13, ⟨Lc13, hQ13, l13, y13, z13⟩, st13⟩ := Jvm.LawKit.callS X12 hx (y := (⟨"java/util/Arrays", "copyOf", "([II)[I"⟩ : MethodName)) hown (mvT hZ (hw _ (List.mem_of_getElem? (i := 21) rfl))) (mvT hZ (hw _ (List.mem_of_getElem? (i := 22) rfl))) (mvT hZ (hw _ (List.mem_of_getElem? (i := 23) rfl))) (mvT hZ (hw _ (List.mem_of_getElem? (i := 24) rfl))) (by decide) (backOf (W := 2) (rmCp2_4 l Z a0 hw [] x0 d0_0 d0_1 kx0 h0 n0 Z0 V_x0) hZ (hw _ (List.mem_of_getElem? (i := 24) rfl)) (hw _ (List.mem_of_getElem? (i := 23) rfl)) (by decide) (by decide)) (g := (mkF m 42 #[rv a1, rv r, iv (0 : Int32)] [(.int (4 : Int32)), (.ref x0), (.int (0 : Int32)), (.ref gA)])) rfl (by rw [hml]; rfl) (argsL := [(.ref x0), (.int (4 : Int32))]) (rest := [(.int (0 : Int32)), (.ref gA)]) (lenOf pd__28_5bII_29_5bI rfl) rfl (by show 2 * 0 + _ ≤ _; exact Nat.le_of_eq rfl) (hb hby d7_42) (fun _ _ => ⟨rfl, e12, (by decide : 0 + 1 ≤ _), (by decide : 0 + 4 ≤ _)⟩)
  dsimp only [Pt.U, Pt.locs, Pt.cells, Pt.slots] at X13 l13 y13 z13 st13 hQ13
  subst l13 y13 z13
  obtain ⟨r13, kr13, rfl, N13q, E13, gr13, Vr13, A13⟩ := hQ13
  have N13 := Fr.app N0 N13q
  refine Goes.step ?_ st13
  have g_r13 : n0 ≤ r13 := Nat.le_trans Z0 gr13
  have sz_r13 : h0.size ≤ r13 := Nat.le_trans (Keep.refl h0 [a1, gA]).1 gr13
  have ne_a1_r13 : a1 ≠ r13 := Nat.ne_of_lt (Nat.lt_of_lt_of_le F_columns.lt gr13)
  have ne_gA_r13 : gA ≠ r13 := Nat.ne_of_lt (Nat.lt_of_lt_of_le V_gA.lt gr13)
  have ne_r_r13 : r ≠ r13 := Nat.ne_of_lt (Nat.lt_of_lt_of_le V_r.lt gr13)
  have ne_x0_r13 : x0 ≠ r13 := Nat.ne_of_lt (Nat.lt_of_lt_of_le V_x0.lt gr13)
  have ne_x1_r13 : x1 ≠ r13 := Nat.ne_of_lt (Nat.lt_of_lt_of_le V_x1.lt gr13)
  have ne_x2_r13 : x2 ≠ r13 := Nat.ne_of_lt (Nat.lt_of_lt_of_le V_x2.lt gr13)
  have Zs13 : n0 ≤ T13.heap.size := Nat.le_trans Z0 E13.1
  show Goes p e below _ (sF T13 m 45 #[rv a1, rv r, iv (0 : Int32)] [(.ref r13), (.int (0 : Int32)), (.ref gA)])
  have V_gA_14 := (V_gA.ext E13)
  obtain ⟨cl15, Ar15, q15, S15, N_15, H15, G15⟩ := id V_gA_14
  have hin16 : ¬ ((0 : Int32) < 0 ∨ cl15.slots.size ≤ ((0 : Int32)).toNatClampNeg) := inb_of S15 ⟨by decide, by decide⟩
  obtain ⟨T16, h16, X16, e16, W16, st16⟩ := stR X13 hx hZ rfl Ar15 (j := (0 : Int32)) hin16 rfl (Sto.ofVA Ar15 q15 Ov (Ins.self A13)) (g := (mkF m 45 #[rv a1, rv r, iv (0 : Int32)] [(.ref r13), (.int (0 : Int32)), (.ref gA)])) rfl rfl (hb hby d7_45)
  have V_16 : Arv Z h16 gA kA (.array .int) (3 : Int32) [(.ref r13), (.ref x1), (.ref x2)] .null := Arv.set Ar15 q15 S15 N_15 H15 G15 rfl W16 0 rfl (Nat.le_of_ble_eq_true rfl)
  have Zs16 : n0 ≤ h16.size := Nat.le_trans Zs13 (Keep.of_wr W16).1
  have N16 := Fr.snoc X16 N13 g_gA
  refine Goes.step ?_ st16
  show Goes p e below _ (sF T16 m 46 #[rv a1, rv r, iv (0 : Int32)] [])
  refine Goes.step ?_ (fun _ k => XS.iinc X16.here hx rfl (hb hby d7_46) rfl (l' := #[rv a1, rv r, iv ((0 : Int32) + (1 : Int32))]) rfl k)
  show Goes p e below _ (sF T16 m 49 #[rv a1, rv r, iv ((0 : Int32) + (1 : Int32))] [])
  rw [show ((0 : Int32) + (1 : Int32)) = (1 : Int32) from by decide]
  show Goes p e below _ (sF T16 m 49 #[rv a1, rv r, iv (1 : Int32)] [])
  refine Goes.step ?_ (fun _ k => XS.goto X16.here hx rfl (pc0 := 49) (pc' := 16) rfl (hb hby d7_49) (by decide) (by decide) k)
  show Goes p e below _ (sF T16 m 16 #[rv a1, rv r, iv (1 : Int32)] [])
  refine Goes.step ?_ (fun _ k => XS.iloadN X16.here hx rfl (hb hby d7_16) rfl  k)
  show Goes p e below _ (sF T16 m 17 #[rv a1, rv r, iv (1 : Int32)] [(.int (1 : Int32))])
  refine Goes.step ?_ (fun _ k => XS.aloadN X16.here hx rfl (hb hby d7_17) rfl rfl k)
  show Goes p e below _ (sF T16 m 18 #[rv a1, rv r, iv (1 : Int32)] [(.ref a1), (.int (1 : Int32))])
  have F_a1_columns_17 := ((F_columns.ext E13).other W16 (Or.inl ne_a1_gA))
  obtain ⟨T18, X18, e18, st18⟩ := getF X16 hx hZ hown (host := "") (Or.inl (hw _ (List.mem_of_getElem? (i := 12) rfl))) Via.refl e16 F_a1_columns_17 (g := (mkF m 18 #[rv a1, rv r, iv (1 : Int32)] [(.ref a1), (.int (1 : Int32))])) rfl rfl (hb hby d7_18)
  refine Goes.step ?_ st18
  show Goes p e below _ (sF T18 m 21 #[rv a1, rv r, iv (1 : Int32)] [(.ref gA), (.int (1 : Int32))])
  obtain ⟨cl19, Ar19, q19, S19, N_19, H19, G19⟩ := id V_16
  refine Goes.step ?_ (fun _ k => X18.arraylength hx (by rw [e18]; exact Ar19.1) (State.isArrayOf_alike hZ.alike Ar19.2.1) (g := (mkF m 21 #[rv a1, rv r, iv (1 : Int32)] [(.ref gA), (.int (1 : Int32))])) rfl rfl (hb hby d7_21) _ k)
  rw [len_of S19 N_19]
  show Goes p e below _ (sF T18 m 22 #[rv a1, rv r, iv (1 : Int32)] [(.int (3 : Int32)), (.int (1 : Int32))])
  refine Goes.step ?_ (fun _ k => XS.icmpNo X18.here hx rfl (hb hby d7_22) rfl (tlt (by decide : (1 : Int32) < (3 : Int32))).2.1 k)
  show Goes p e below _ (sF T18 m 25 #[rv a1, rv r, iv (1 : Int32)] [])
  refine Goes.step ?_ (fun _ k => XS.aloadN X18.here hx rfl (hb hby d7_25) rfl rfl k)
  show Goes p e below _ (sF T18 m 26 #[rv a1, rv r, iv (1 : Int32)] [(.ref a1)])
  obtain ⟨T20, X20, e20, st20⟩ := getF X18 hx hZ hown (host := "") (Or.inl (hw _ (List.mem_of_getElem? (i := 12) rfl))) Via.refl e18 F_a1_columns_17 (g := (mkF m 26 #[rv a1, rv r, iv (1 : Int32)] [(.ref a1)])) rfl rfl (hb hby d7_26)
  refine Goes.step ?_ st20
  show Goes p e below _ (sF T20 m 29 #[rv a1, rv r, iv (1 : Int32)] [(.ref gA)])
  refine Goes.step ?_ (fun _ k => XS.iloadN X20.here hx rfl (hb hby d7_29) rfl  k)
  show Goes p e below _ (sF T20 m 30 #[rv a1, rv r, iv (1 : Int32)] [(.int (1 : Int32)), (.ref gA)])
  refine Goes.step ?_ (fun _ k => XS.aloadN X20.here hx rfl (hb hby d7_30) rfl rfl k)
  show Goes p e below _ (sF T20 m 31 #[rv a1, rv r, iv (1 : Int32)] [(.ref a1), (.int (1 : Int32)), (.ref gA)])
  obtain ⟨T21, X21, e21, st21⟩ := getF X20 hx hZ hown (host := "") (Or.inl (hw _ (List.mem_of_getElem? (i := 12) rfl))) Via.refl e20 F_a1_columns_17 (g := (mkF m 31 #[rv a1, rv r, iv (1 : Int32)] [(.ref a1), (.int (1 : Int32)), (.ref gA)])) rfl rfl (hb hby d7_31)
  refine Goes.step ?_ st21
  show Goes p e below _ (sF T21 m 34 #[rv a1, rv r, iv (1 : Int32)] [(.ref gA), (.int (1 : Int32)), (.ref gA)])
  refine Goes.step ?_ (fun _ k => XS.iloadN X21.here hx rfl (hb hby d7_34) rfl  k)
  show Goes p e below _ (sF T21 m 35 #[rv a1, rv r, iv (1 : Int32)] [(.int (1 : Int32)), (.ref gA), (.int (1 : Int32)), (.ref gA)])
  obtain ⟨cl22, Ar22, q22, S22, N_22, H22, G22⟩ := id V_16
  have hin23 : ¬ ((1 : Int32) < 0 ∨ cl22.slots.size ≤ ((1 : Int32)).toNatClampNeg) := inb_of S22 ⟨by decide, by decide⟩
  have hat23 : cl22.slots[((1 : Int32)).toNatClampNeg]? = some (.ref x1) := H22.at hin23 rfl
  refine Goes.step ?_ (fun _ k => X21.aaload hx (j := (1 : Int32)) (v := (.ref x1)) (by rw [e21]; exact Ar22.1) (State.isArrayOf_alike hZ.alike Ar22.2.1) rfl Ar22.2.2 hin23 hat23 (g := (mkF m 35 #[rv a1, rv r, iv (1 : Int32)] [(.int (1 : Int32)), (.ref gA), (.int (1 : Int32)), (.ref gA)])) rfl rfl (hb hby d7_35) _ k)
  show Goes p e below _ (sF T21 m 36 #[rv a1, rv r, iv (1 : Int32)] [(.ref x1), (.int (1 : Int32)), (.ref gA)])
  refine Goes.step ?_ (fun _ k => XS.aloadN X21.here hx rfl (hb hby d7_36) rfl rfl k)
  show Goes p e below _ (sF T21 m 37 #[rv a1, rv r, iv (1 : Int32)] [(.ref a1), (.ref x1), (.int (1 : Int32)), (.ref gA)])
  have F_a1_size_24 := ((F_size.ext E13).other W16 (Or.inl ne_a1_gA))
  obtain ⟨T25, X25, e25, st25⟩ := getF X21 hx hZ hown (host := "") (Or.inl (hw _ (List.mem_of_getElem? (i := 19) rfl))) Via.refl e21 F_a1_size_24 (g := (mkF m 37 #[rv a1, rv r, iv (1 : Int32)] [(.ref a1), (.ref x1), (.int (1 : Int32)), (.ref gA)])) rfl rfl (hb hby d7_37)
  refine Goes.step ?_ st25
  show Goes p e below _ (sF T25 m 40 #[rv a1, rv r, iv (1 : Int32)] [(.int (2 : Int32)), (.ref x1), (.int (1 : Int32)), (.ref gA)])
  refine Goes.step ?_ (fun _ k => XS.iconst X25.here hx rfl (hb hby d7_40) k)
  show Goes p e below _ (sF T25 m 41 #[rv a1, rv r, iv (1 : Int32)] [(.int (2 : Int32)), (.int (2 : Int32)), (.ref x1), (.int (1 : Int32)), (.ref gA)])
  refine Goes.step ?_ (fun _ k => XS.imul X25.here hx rfl (hb hby d7_41) rfl k)
  show Goes p e below _ (sF T25 m 42 #[rv a1, rv r, iv (1 : Int32)] [(.int ((2 : Int32) * (2 : Int32))), (.ref x1), (.int (1 : Int32)), (.ref gA)])
  rw [show ((2 : Int32) * (2 : Int32)) = (4 : Int32) from by decide]
  show Goes p e below _ (sF T25 m 42 #[rv a1, rv r, iv (1 : Int32)] [(.int (4 : Int32)), (.ref x1), (.int (1 : Int32)), (.ref gA)])
  have V_x1_26 := ((V_x1.ext E13).other W16 (Ne.symm ne_gA_x1))
  obtain ⟨_, _, ⟨T27, L27, k27, n27⟩, -, X27, ⟨Lc27, hQ27, l27, y27, z27⟩, st27⟩ := Jvm.LawKit.callS X25 hx (y := (⟨"java/util/Arrays", "copyOf", "([II)[I"⟩ : MethodName)) hown (mvT hZ (hw _ (List.mem_of_getElem? (i := 21) rfl))) (mvT hZ (hw _ (List.mem_of_getElem? (i := 22) rfl))) (mvT hZ (hw _ (List.mem_of_getElem? (i := 23) rfl))) (mvT hZ (hw _ (List.mem_of_getElem? (i := 24) rfl))) (by decide) (backOf (W := 2) (rmCp2_4 l Z a0 hw [] x1 d1_0 d1_1 kx1 h16 n0 Zs16 V_x1_26) hZ (hw _ (List.mem_of_getElem? (i := 24) rfl)) (hw _ (List.mem_of_getElem? (i := 23) rfl)) (by decide) (by decide)) (g := (mkF m 42 #[rv a1, rv r, iv (1 : Int32)] [(.int (4 : Int32)), (.ref x1), (.int (1 : Int32)), (.ref gA)])) rfl (by rw [hml]; rfl) (argsL := [(.ref x1), (.int (4 : Int32))]) (rest := [(.int (1 : Int32)), (.ref gA)]) (lenOf pd__28_5bII_29_5bI rfl) rfl (by show 2 * 0 + _ ≤ _; exact Nat.le_of_eq rfl) (hb hby d7_42) (fun _ _ => ⟨rfl, e25, (by decide : 0 + 1 + 1 ≤ _), (by decide : 0 + 4 + 4 ≤ _)⟩)
  dsimp only [Pt.U, Pt.locs, Pt.cells, Pt.slots] at X27 l27 y27 z27 st27 hQ27
  subst l27 y27 z27
  obtain ⟨r27, kr27, rfl, N27q, E27, gr27, Vr27, A27⟩ := hQ27
  have N27 := Fr.app N16 N27q
  refine Goes.step ?_ st27
  have g_r27 : n0 ≤ r27 := Nat.le_trans Zs16 gr27
  have K_28 := (((Keep.refl h0 [a1, gA]).ext E13).wr W16 (Or.inl (List.mem_of_getElem? (i := 1) rfl)))
  have sz_r27 : h0.size ≤ r27 := Nat.le_trans K_28.1 gr27
  have ne_a1_r27 : a1 ≠ r27 := Nat.ne_of_lt (Nat.lt_of_lt_of_le F_a1_columns_17.lt gr27)
  have ne_gA_r27 : gA ≠ r27 := Nat.ne_of_lt (Nat.lt_of_lt_of_le V_16.lt gr27)
  have V_r_29 := ((V_r.ext E13).other W16 ne_r_gA)
  have ne_r_r27 : r ≠ r27 := Nat.ne_of_lt (Nat.lt_of_lt_of_le V_r_29.lt gr27)
  have V_x0_30 := ((V_x0.ext E13).other W16 (Ne.symm ne_gA_x0))
  have ne_x0_r27 : x0 ≠ r27 := Nat.ne_of_lt (Nat.lt_of_lt_of_le V_x0_30.lt gr27)
  have ne_x1_r27 : x1 ≠ r27 := Nat.ne_of_lt (Nat.lt_of_lt_of_le V_x1_26.lt gr27)
  have V_x2_31 := ((V_x2.ext E13).other W16 (Ne.symm ne_gA_x2))
  have ne_x2_r27 : x2 ≠ r27 := Nat.ne_of_lt (Nat.lt_of_lt_of_le V_x2_31.lt gr27)
  have V_r13_32 := (Vr13.other W16 (Ne.symm ne_gA_r13))
  have ne_r13_r27 : r13 ≠ r27 := Nat.ne_of_lt (Nat.lt_of_lt_of_le V_r13_32.lt gr27)
  have Zs27 : n0 ≤ T27.heap.size := Nat.le_trans Zs16 E27.1
  show Goes p e below _ (sF T27 m 45 #[rv a1, rv r, iv (1 : Int32)] [(.ref r27), (.int (1 : Int32)), (.ref gA)])
  have V_gA_33 := (V_16.ext E27)
  obtain ⟨cl34, Ar34, q34, S34, N_34, H34, G34⟩ := id V_gA_33
  have hin35 : ¬ ((1 : Int32) < 0 ∨ cl34.slots.size ≤ ((1 : Int32)).toNatClampNeg) := inb_of S34 ⟨by decide, by decide⟩
  obtain ⟨T35, h35, X35, e35, W35, st35⟩ := stR X27 hx hZ rfl Ar34 (j := (1 : Int32)) hin35 rfl (Sto.ofVA Ar34 q34 Ov (Ins.self A27)) (g := (mkF m 45 #[rv a1, rv r, iv (1 : Int32)] [(.ref r27), (.int (1 : Int32)), (.ref gA)])) rfl rfl (hb hby d7_45)
  have V_35 : Arv Z h35 gA kA (.array .int) (3 : Int32) [(.ref r13), (.ref r27), (.ref x2)] .null := Arv.set Ar34 q34 S34 N_34 H34 G34 rfl W35 1 rfl (Nat.le_of_ble_eq_true rfl)
  have Zs35 : n0 ≤ h35.size := Nat.le_trans Zs27 (Keep.of_wr W35).1
  have N35 := Fr.snoc X35 N27 g_gA
  refine Goes.step ?_ st35
  show Goes p e below _ (sF T35 m 46 #[rv a1, rv r, iv (1 : Int32)] [])
  refine Goes.step ?_ (fun _ k => XS.iinc X35.here hx rfl (hb hby d7_46) rfl (l' := #[rv a1, rv r, iv ((1 : Int32) + (1 : Int32))]) rfl k)
  show Goes p e below _ (sF T35 m 49 #[rv a1, rv r, iv ((1 : Int32) + (1 : Int32))] [])
  rw [show ((1 : Int32) + (1 : Int32)) = (2 : Int32) from by decide]
  show Goes p e below _ (sF T35 m 49 #[rv a1, rv r, iv (2 : Int32)] [])
  refine Goes.step ?_ (fun _ k => XS.goto X35.here hx rfl (pc0 := 49) (pc' := 16) rfl (hb hby d7_49) (by decide) (by decide) k)
  show Goes p e below _ (sF T35 m 16 #[rv a1, rv r, iv (2 : Int32)] [])
  refine Goes.step ?_ (fun _ k => XS.iloadN X35.here hx rfl (hb hby d7_16) rfl  k)
  show Goes p e below _ (sF T35 m 17 #[rv a1, rv r, iv (2 : Int32)] [(.int (2 : Int32))])
  refine Goes.step ?_ (fun _ k => XS.aloadN X35.here hx rfl (hb hby d7_17) rfl rfl k)
  show Goes p e below _ (sF T35 m 18 #[rv a1, rv r, iv (2 : Int32)] [(.ref a1), (.int (2 : Int32))])
  have F_a1_columns_36 := ((F_a1_columns_17.ext E27).other W35 (Or.inl ne_a1_gA))
  obtain ⟨T37, X37, e37, st37⟩ := getF X35 hx hZ hown (host := "") (Or.inl (hw _ (List.mem_of_getElem? (i := 12) rfl))) Via.refl e35 F_a1_columns_36 (g := (mkF m 18 #[rv a1, rv r, iv (2 : Int32)] [(.ref a1), (.int (2 : Int32))])) rfl rfl (hb hby d7_18)
  refine Goes.step ?_ st37
  show Goes p e below _ (sF T37 m 21 #[rv a1, rv r, iv (2 : Int32)] [(.ref gA), (.int (2 : Int32))])
  obtain ⟨cl38, Ar38, q38, S38, N_38, H38, G38⟩ := id V_35
  refine Goes.step ?_ (fun _ k => X37.arraylength hx (by rw [e37]; exact Ar38.1) (State.isArrayOf_alike hZ.alike Ar38.2.1) (g := (mkF m 21 #[rv a1, rv r, iv (2 : Int32)] [(.ref gA), (.int (2 : Int32))])) rfl rfl (hb hby d7_21) _ k)
  rw [len_of S38 N_38]
  show Goes p e below _ (sF T37 m 22 #[rv a1, rv r, iv (2 : Int32)] [(.int (3 : Int32)), (.int (2 : Int32))])
  refine Goes.step ?_ (fun _ k => XS.icmpNo X37.here hx rfl (hb hby d7_22) rfl (tlt (by decide : (2 : Int32) < (3 : Int32))).2.1 k)
  show Goes p e below _ (sF T37 m 25 #[rv a1, rv r, iv (2 : Int32)] [])
  refine Goes.step ?_ (fun _ k => XS.aloadN X37.here hx rfl (hb hby d7_25) rfl rfl k)
  show Goes p e below _ (sF T37 m 26 #[rv a1, rv r, iv (2 : Int32)] [(.ref a1)])
  obtain ⟨T39, X39, e39, st39⟩ := getF X37 hx hZ hown (host := "") (Or.inl (hw _ (List.mem_of_getElem? (i := 12) rfl))) Via.refl e37 F_a1_columns_36 (g := (mkF m 26 #[rv a1, rv r, iv (2 : Int32)] [(.ref a1)])) rfl rfl (hb hby d7_26)
  refine Goes.step ?_ st39
  show Goes p e below _ (sF T39 m 29 #[rv a1, rv r, iv (2 : Int32)] [(.ref gA)])
  refine Goes.step ?_ (fun _ k => XS.iloadN X39.here hx rfl (hb hby d7_29) rfl  k)
  show Goes p e below _ (sF T39 m 30 #[rv a1, rv r, iv (2 : Int32)] [(.int (2 : Int32)), (.ref gA)])
  refine Goes.step ?_ (fun _ k => XS.aloadN X39.here hx rfl (hb hby d7_30) rfl rfl k)
  show Goes p e below _ (sF T39 m 31 #[rv a1, rv r, iv (2 : Int32)] [(.ref a1), (.int (2 : Int32)), (.ref gA)])
  obtain ⟨T40, X40, e40, st40⟩ := getF X39 hx hZ hown (host := "") (Or.inl (hw _ (List.mem_of_getElem? (i := 12) rfl))) Via.refl e39 F_a1_columns_36 (g := (mkF m 31 #[rv a1, rv r, iv (2 : Int32)] [(.ref a1), (.int (2 : Int32)), (.ref gA)])) rfl rfl (hb hby d7_31)
  refine Goes.step ?_ st40
  show Goes p e below _ (sF T40 m 34 #[rv a1, rv r, iv (2 : Int32)] [(.ref gA), (.int (2 : Int32)), (.ref gA)])
  refine Goes.step ?_ (fun _ k => XS.iloadN X40.here hx rfl (hb hby d7_34) rfl  k)
  show Goes p e below _ (sF T40 m 35 #[rv a1, rv r, iv (2 : Int32)] [(.int (2 : Int32)), (.ref gA), (.int (2 : Int32)), (.ref gA)])
  obtain ⟨cl41, Ar41, q41, S41, N_41, H41, G41⟩ := id V_35
  have hin42 : ¬ ((2 : Int32) < 0 ∨ cl41.slots.size ≤ ((2 : Int32)).toNatClampNeg) := inb_of S41 ⟨by decide, by decide⟩
  have hat42 : cl41.slots[((2 : Int32)).toNatClampNeg]? = some (.ref x2) := H41.at hin42 rfl
  refine Goes.step ?_ (fun _ k => X40.aaload hx (j := (2 : Int32)) (v := (.ref x2)) (by rw [e40]; exact Ar41.1) (State.isArrayOf_alike hZ.alike Ar41.2.1) rfl Ar41.2.2 hin42 hat42 (g := (mkF m 35 #[rv a1, rv r, iv (2 : Int32)] [(.int (2 : Int32)), (.ref gA), (.int (2 : Int32)), (.ref gA)])) rfl rfl (hb hby d7_35) _ k)
  show Goes p e below _ (sF T40 m 36 #[rv a1, rv r, iv (2 : Int32)] [(.ref x2), (.int (2 : Int32)), (.ref gA)])
  refine Goes.step ?_ (fun _ k => XS.aloadN X40.here hx rfl (hb hby d7_36) rfl rfl k)
  show Goes p e below _ (sF T40 m 37 #[rv a1, rv r, iv (2 : Int32)] [(.ref a1), (.ref x2), (.int (2 : Int32)), (.ref gA)])
  have F_a1_size_43 := ((F_a1_size_24.ext E27).other W35 (Or.inl ne_a1_gA))
  obtain ⟨T44, X44, e44, st44⟩ := getF X40 hx hZ hown (host := "") (Or.inl (hw _ (List.mem_of_getElem? (i := 19) rfl))) Via.refl e40 F_a1_size_43 (g := (mkF m 37 #[rv a1, rv r, iv (2 : Int32)] [(.ref a1), (.ref x2), (.int (2 : Int32)), (.ref gA)])) rfl rfl (hb hby d7_37)
  refine Goes.step ?_ st44
  show Goes p e below _ (sF T44 m 40 #[rv a1, rv r, iv (2 : Int32)] [(.int (2 : Int32)), (.ref x2), (.int (2 : Int32)), (.ref gA)])
  refine Goes.step ?_ (fun _ k => XS.iconst X44.here hx rfl (hb hby d7_40) k)
  show Goes p e below _ (sF T44 m 41 #[rv a1, rv r, iv (2 : Int32)] [(.int (2 : Int32)), (.int (2 : Int32)), (.ref x2), (.int (2 : Int32)), (.ref gA)])
  refine Goes.step ?_ (fun _ k => XS.imul X44.here hx rfl (hb hby d7_41) rfl k)
  show Goes p e below _ (sF T44 m 42 #[rv a1, rv r, iv (2 : Int32)] [(.int ((2 : Int32) * (2 : Int32))), (.ref x2), (.int (2 : Int32)), (.ref gA)])
  rw [show ((2 : Int32) * (2 : Int32)) = (4 : Int32) from by decide]
  show Goes p e below _ (sF T44 m 42 #[rv a1, rv r, iv (2 : Int32)] [(.int (4 : Int32)), (.ref x2), (.int (2 : Int32)), (.ref gA)])
  have V_x2_45 := ((V_x2_31.ext E27).other W35 (Ne.symm ne_gA_x2))
  obtain ⟨_, _, ⟨T46, L46, k46, n46⟩, -, X46, ⟨Lc46, hQ46, l46, y46, z46⟩, st46⟩ := Jvm.LawKit.callS X44 hx (y := (⟨"java/util/Arrays", "copyOf", "([II)[I"⟩ : MethodName)) hown (mvT hZ (hw _ (List.mem_of_getElem? (i := 21) rfl))) (mvT hZ (hw _ (List.mem_of_getElem? (i := 22) rfl))) (mvT hZ (hw _ (List.mem_of_getElem? (i := 23) rfl))) (mvT hZ (hw _ (List.mem_of_getElem? (i := 24) rfl))) (by decide) (backOf (W := 2) (rmCp2_4 l Z a0 hw [] x2 d2_0 d2_1 kx2 h35 n0 Zs35 V_x2_45) hZ (hw _ (List.mem_of_getElem? (i := 24) rfl)) (hw _ (List.mem_of_getElem? (i := 23) rfl)) (by decide) (by decide)) (g := (mkF m 42 #[rv a1, rv r, iv (2 : Int32)] [(.int (4 : Int32)), (.ref x2), (.int (2 : Int32)), (.ref gA)])) rfl (by rw [hml]; rfl) (argsL := [(.ref x2), (.int (4 : Int32))]) (rest := [(.int (2 : Int32)), (.ref gA)]) (lenOf pd__28_5bII_29_5bI rfl) rfl (by show 2 * 0 + _ ≤ _; exact Nat.le_of_eq rfl) (hb hby d7_42) (fun _ _ => ⟨rfl, e44, (by decide : 0 + 1 + 1 + 1 ≤ _), (by decide : 0 + 4 + 4 + 4 ≤ _)⟩)
  dsimp only [Pt.U, Pt.locs, Pt.cells, Pt.slots] at X46 l46 y46 z46 st46 hQ46
  subst l46 y46 z46
  obtain ⟨r46, kr46, rfl, N46q, E46, gr46, Vr46, A46⟩ := hQ46
  have N46 := Fr.app N35 N46q
  refine Goes.step ?_ st46
  have g_r46 : n0 ≤ r46 := Nat.le_trans Zs35 gr46
  have K_47 := ((K_28.ext E27).wr W35 (Or.inl (List.mem_of_getElem? (i := 1) rfl)))
  have sz_r46 : h0.size ≤ r46 := Nat.le_trans K_47.1 gr46
  have ne_a1_r46 : a1 ≠ r46 := Nat.ne_of_lt (Nat.lt_of_lt_of_le F_a1_columns_36.lt gr46)
  have ne_gA_r46 : gA ≠ r46 := Nat.ne_of_lt (Nat.lt_of_lt_of_le V_35.lt gr46)
  have V_r_48 := ((V_r_29.ext E27).other W35 ne_r_gA)
  have ne_r_r46 : r ≠ r46 := Nat.ne_of_lt (Nat.lt_of_lt_of_le V_r_48.lt gr46)
  have V_x0_49 := ((V_x0_30.ext E27).other W35 (Ne.symm ne_gA_x0))
  have ne_x0_r46 : x0 ≠ r46 := Nat.ne_of_lt (Nat.lt_of_lt_of_le V_x0_49.lt gr46)
  have V_x1_50 := ((V_x1_26.ext E27).other W35 (Ne.symm ne_gA_x1))
  have ne_x1_r46 : x1 ≠ r46 := Nat.ne_of_lt (Nat.lt_of_lt_of_le V_x1_50.lt gr46)
  have ne_x2_r46 : x2 ≠ r46 := Nat.ne_of_lt (Nat.lt_of_lt_of_le V_x2_45.lt gr46)
  have V_r13_51 := ((V_r13_32.ext E27).other W35 (Ne.symm ne_gA_r13))
  have ne_r13_r46 : r13 ≠ r46 := Nat.ne_of_lt (Nat.lt_of_lt_of_le V_r13_51.lt gr46)
  have V_r27_52 := (Vr27.other W35 (Ne.symm ne_gA_r27))
  have ne_r27_r46 : r27 ≠ r46 := Nat.ne_of_lt (Nat.lt_of_lt_of_le V_r27_52.lt gr46)
  have Zs46 : n0 ≤ T46.heap.size := Nat.le_trans Zs35 E46.1
  show Goes p e below _ (sF T46 m 45 #[rv a1, rv r, iv (2 : Int32)] [(.ref r46), (.int (2 : Int32)), (.ref gA)])
  have V_gA_53 := (V_35.ext E46)
  obtain ⟨cl54, Ar54, q54, S54, N_54, H54, G54⟩ := id V_gA_53
  have hin55 : ¬ ((2 : Int32) < 0 ∨ cl54.slots.size ≤ ((2 : Int32)).toNatClampNeg) := inb_of S54 ⟨by decide, by decide⟩
  obtain ⟨T55, h55, X55, e55, W55, st55⟩ := stR X46 hx hZ rfl Ar54 (j := (2 : Int32)) hin55 rfl (Sto.ofVA Ar54 q54 Ov (Ins.self A46)) (g := (mkF m 45 #[rv a1, rv r, iv (2 : Int32)] [(.ref r46), (.int (2 : Int32)), (.ref gA)])) rfl rfl (hb hby d7_45)
  have V_55 : Arv Z h55 gA kA (.array .int) (3 : Int32) [(.ref r13), (.ref r27), (.ref r46)] .null := Arv.set Ar54 q54 S54 N_54 H54 G54 rfl W55 2 rfl (Nat.le_of_ble_eq_true rfl)
  have Zs55 : n0 ≤ h55.size := Nat.le_trans Zs46 (Keep.of_wr W55).1
  have N55 := Fr.snoc X55 N46 g_gA
  refine Goes.step ?_ st55
  show Goes p e below _ (sF T55 m 46 #[rv a1, rv r, iv (2 : Int32)] [])
  refine Goes.step ?_ (fun _ k => XS.iinc X55.here hx rfl (hb hby d7_46) rfl (l' := #[rv a1, rv r, iv ((2 : Int32) + (1 : Int32))]) rfl k)
  show Goes p e below _ (sF T55 m 49 #[rv a1, rv r, iv ((2 : Int32) + (1 : Int32))] [])
  rw [show ((2 : Int32) + (1 : Int32)) = (3 : Int32) from by decide]
  show Goes p e below _ (sF T55 m 49 #[rv a1, rv r, iv (3 : Int32)] [])
  refine Goes.step ?_ (fun _ k => XS.goto X55.here hx rfl (pc0 := 49) (pc' := 16) rfl (hb hby d7_49) (by decide) (by decide) k)
  show Goes p e below _ (sF T55 m 16 #[rv a1, rv r, iv (3 : Int32)] [])
  refine Goes.step ?_ (fun _ k => XS.iloadN X55.here hx rfl (hb hby d7_16) rfl  k)
  show Goes p e below _ (sF T55 m 17 #[rv a1, rv r, iv (3 : Int32)] [(.int (3 : Int32))])
  refine Goes.step ?_ (fun _ k => XS.aloadN X55.here hx rfl (hb hby d7_17) rfl rfl k)
  show Goes p e below _ (sF T55 m 18 #[rv a1, rv r, iv (3 : Int32)] [(.ref a1), (.int (3 : Int32))])
  have F_a1_columns_56 := ((F_a1_columns_36.ext E46).other W55 (Or.inl ne_a1_gA))
  obtain ⟨T57, X57, e57, st57⟩ := getF X55 hx hZ hown (host := "") (Or.inl (hw _ (List.mem_of_getElem? (i := 12) rfl))) Via.refl e55 F_a1_columns_56 (g := (mkF m 18 #[rv a1, rv r, iv (3 : Int32)] [(.ref a1), (.int (3 : Int32))])) rfl rfl (hb hby d7_18)
  refine Goes.step ?_ st57
  show Goes p e below _ (sF T57 m 21 #[rv a1, rv r, iv (3 : Int32)] [(.ref gA), (.int (3 : Int32))])
  obtain ⟨cl58, Ar58, q58, S58, N_58, H58, G58⟩ := id V_55
  refine Goes.step ?_ (fun _ k => X57.arraylength hx (by rw [e57]; exact Ar58.1) (State.isArrayOf_alike hZ.alike Ar58.2.1) (g := (mkF m 21 #[rv a1, rv r, iv (3 : Int32)] [(.ref gA), (.int (3 : Int32))])) rfl rfl (hb hby d7_21) _ k)
  rw [len_of S58 N_58]
  show Goes p e below _ (sF T57 m 22 #[rv a1, rv r, iv (3 : Int32)] [(.int (3 : Int32)), (.int (3 : Int32))])
  refine Goes.step ?_ (fun _ k => XS.icmpYes X57.here hx rfl (pc0 := 22) (pc' := 52) rfl (hb hby d7_22) rfl (flt (by decide : ¬ ((3 : Int32) < (3 : Int32)))).2.1 (by decide) (by decide) k)
  show Goes p e below _ (sF T57 m 52 #[rv a1, rv r, iv (3 : Int32)] [])
  refine Goes.step ?_ (fun _ k => XS.iconst X57.here hx rfl (hb hby d7_52) k)
  show Goes p e below _ (sF T57 m 53 #[rv a1, rv r, iv (3 : Int32)] [(.int (0 : Int32))])
  refine Goes.step ?_ (fun _ k => XS.istoreN X57.here hx rfl (hb hby d7_53) rfl (l' := #[rv a1, rv r, iv (0 : Int32)]) rfl k)
  show Goes p e below _ (sF T57 m 54 #[rv a1, rv r, iv (0 : Int32)] [])
  refine Goes.step ?_ (fun _ k => XS.iloadN X57.here hx rfl (hb hby d7_54) rfl  k)
  show Goes p e below _ (sF T57 m 55 #[rv a1, rv r, iv (0 : Int32)] [(.int (0 : Int32))])
  refine Goes.step ?_ (fun _ k => XS.aloadN X57.here hx rfl (hb hby d7_55) rfl rfl k)
  show Goes p e below _ (sF T57 m 56 #[rv a1, rv r, iv (0 : Int32)] [(.ref a1), (.int (0 : Int32))])
  obtain ⟨T59, X59, e59, st59⟩ := getF X57 hx hZ hown (host := "") (Or.inl (hw _ (List.mem_of_getElem? (i := 12) rfl))) Via.refl e57 F_a1_columns_56 (g := (mkF m 56 #[rv a1, rv r, iv (0 : Int32)] [(.ref a1), (.int (0 : Int32))])) rfl rfl (hb hby d7_56)
  refine Goes.step ?_ st59
  show Goes p e below _ (sF T59 m 59 #[rv a1, rv r, iv (0 : Int32)] [(.ref gA), (.int (0 : Int32))])
  obtain ⟨cl60, Ar60, q60, S60, N_60, H60, G60⟩ := id V_55
  refine Goes.step ?_ (fun _ k => X59.arraylength hx (by rw [e59]; exact Ar60.1) (State.isArrayOf_alike hZ.alike Ar60.2.1) (g := (mkF m 59 #[rv a1, rv r, iv (0 : Int32)] [(.ref gA), (.int (0 : Int32))])) rfl rfl (hb hby d7_59) _ k)
  rw [len_of S60 N_60]
  show Goes p e below _ (sF T59 m 60 #[rv a1, rv r, iv (0 : Int32)] [(.int (3 : Int32)), (.int (0 : Int32))])
  refine Goes.step ?_ (fun _ k => XS.icmpNo X59.here hx rfl (hb hby d7_60) rfl (tlt (by decide : (0 : Int32) < (3 : Int32))).2.1 k)
  show Goes p e below _ (sF T59 m 63 #[rv a1, rv r, iv (0 : Int32)] [])
  refine Goes.step ?_ (fun _ k => XS.aloadN X59.here hx rfl (hb hby d7_63) rfl rfl k)
  show Goes p e below _ (sF T59 m 64 #[rv a1, rv r, iv (0 : Int32)] [(.ref a1)])
  obtain ⟨T61, X61, e61, st61⟩ := getF X59 hx hZ hown (host := "") (Or.inl (hw _ (List.mem_of_getElem? (i := 12) rfl))) Via.refl e59 F_a1_columns_56 (g := (mkF m 64 #[rv a1, rv r, iv (0 : Int32)] [(.ref a1)])) rfl rfl (hb hby d7_64)
  refine Goes.step ?_ st61
  show Goes p e below _ (sF T61 m 67 #[rv a1, rv r, iv (0 : Int32)] [(.ref gA)])
  refine Goes.step ?_ (fun _ k => XS.iloadN X61.here hx rfl (hb hby d7_67) rfl  k)
  show Goes p e below _ (sF T61 m 68 #[rv a1, rv r, iv (0 : Int32)] [(.int (0 : Int32)), (.ref gA)])
  obtain ⟨cl62, Ar62, q62, S62, N_62, H62, G62⟩ := id V_55
  have hin63 : ¬ ((0 : Int32) < 0 ∨ cl62.slots.size ≤ ((0 : Int32)).toNatClampNeg) := inb_of S62 ⟨by decide, by decide⟩
  have hat63 : cl62.slots[((0 : Int32)).toNatClampNeg]? = some (.ref r13) := H62.at hin63 rfl
  refine Goes.step ?_ (fun _ k => X61.aaload hx (j := (0 : Int32)) (v := (.ref r13)) (by rw [e61]; exact Ar62.1) (State.isArrayOf_alike hZ.alike Ar62.2.1) rfl Ar62.2.2 hin63 hat63 (g := (mkF m 68 #[rv a1, rv r, iv (0 : Int32)] [(.int (0 : Int32)), (.ref gA)])) rfl rfl (hb hby d7_68) _ k)
  show Goes p e below _ (sF T61 m 69 #[rv a1, rv r, iv (0 : Int32)] [(.ref r13)])
  refine Goes.step ?_ (fun _ k => XS.aloadN X61.here hx rfl (hb hby d7_69) rfl rfl k)
  show Goes p e below _ (sF T61 m 70 #[rv a1, rv r, iv (0 : Int32)] [(.ref a1), (.ref r13)])
  have F_a1_size_64 := ((F_a1_size_43.ext E46).other W55 (Or.inl ne_a1_gA))
  obtain ⟨T65, X65, e65, st65⟩ := getF X61 hx hZ hown (host := "") (Or.inl (hw _ (List.mem_of_getElem? (i := 19) rfl))) Via.refl e61 F_a1_size_64 (g := (mkF m 70 #[rv a1, rv r, iv (0 : Int32)] [(.ref a1), (.ref r13)])) rfl rfl (hb hby d7_70)
  refine Goes.step ?_ st65
  show Goes p e below _ (sF T65 m 73 #[rv a1, rv r, iv (0 : Int32)] [(.int (2 : Int32)), (.ref r13)])
  refine Goes.step ?_ (fun _ k => XS.aloadN X65.here hx rfl (hb hby d7_73) rfl rfl k)
  show Goes p e below _ (sF T65 m 74 #[rv a1, rv r, iv (0 : Int32)] [(.ref r), (.int (2 : Int32)), (.ref r13)])
  refine Goes.step ?_ (fun _ k => XS.iloadN X65.here hx rfl (hb hby d7_74) rfl  k)
  show Goes p e below _ (sF T65 m 75 #[rv a1, rv r, iv (0 : Int32)] [(.int (0 : Int32)), (.ref r), (.int (2 : Int32)), (.ref r13)])
  have V_r_66 := ((V_r_48.ext E46).other W55 ne_r_gA)
  obtain ⟨cl67, Ar67, q67, S67, N_67, H67, G67⟩ := id V_r_66
  have hin68 : ¬ ((0 : Int32) < 0 ∨ cl67.slots.size ≤ ((0 : Int32)).toNatClampNeg) := inb_of S67 ⟨by decide, by decide⟩
  have hat68 : cl67.slots[((0 : Int32)).toNatClampNeg]? = some (.int y0) := H67.at hin68 rfl
  refine Goes.step ?_ (fun _ k => X65.iaload hx (j := (0 : Int32)) (v := (.int y0)) (by rw [e65]; exact Ar67.1) (State.isArrayOf_alike hZ.alike Ar67.2.1) Ar67.2.2 hin68 hat68 (g := (mkF m 75 #[rv a1, rv r, iv (0 : Int32)] [(.int (0 : Int32)), (.ref r), (.int (2 : Int32)), (.ref r13)])) rfl rfl (hb hby d7_75) _ k)
  show Goes p e below _ (sF T65 m 76 #[rv a1, rv r, iv (0 : Int32)] [(.int y0), (.int (2 : Int32)), (.ref r13)])
  have V_r13_69 := ((V_r13_51.ext E46).other W55 (Ne.symm ne_gA_r13))
  obtain ⟨cl70, Ar70, q70, S70, N_70, H70, G70⟩ := id V_r13_69
  have hin71 : ¬ ((2 : Int32) < 0 ∨ cl70.slots.size ≤ ((2 : Int32)).toNatClampNeg) := inb_of S70 ⟨by decide, by decide⟩
  obtain ⟨T71, h71, X71, e71, W71, st71⟩ := stI X65 hx hZ e65 Ar70 (j := (2 : Int32)) hin71 (g := (mkF m 76 #[rv a1, rv r, iv (0 : Int32)] [(.int y0), (.int (2 : Int32)), (.ref r13)])) rfl rfl (hb hby d7_76)
  have V_71 : Arv Z h71 r13 kr13 .int (4 : Int32) [(.int d0_0), (.int d0_1), (.int y0), (.int (0 : Int32))] (.int (0 : Int32)) := Arv.set Ar70 q70 S70 N_70 H70 G70 rfl W71 2 rfl (Nat.le_of_ble_eq_true rfl)
  have Zs71 : n0 ≤ h71.size := Nat.le_trans Zs55 (Keep.of_wr W71).1
  have N71 := Fr.snoc X71 N55 g_r13
  refine Goes.step ?_ st71
  show Goes p e below _ (sF T71 m 77 #[rv a1, rv r, iv (0 : Int32)] [])
  refine Goes.step ?_ (fun _ k => XS.iinc X71.here hx rfl (hb hby d7_77) rfl (l' := #[rv a1, rv r, iv ((0 : Int32) + (1 : Int32))]) rfl k)
  show Goes p e below _ (sF T71 m 80 #[rv a1, rv r, iv ((0 : Int32) + (1 : Int32))] [])
  rw [show ((0 : Int32) + (1 : Int32)) = (1 : Int32) from by decide]
  show Goes p e below _ (sF T71 m 80 #[rv a1, rv r, iv (1 : Int32)] [])
  refine Goes.step ?_ (fun _ k => XS.goto X71.here hx rfl (pc0 := 80) (pc' := 54) rfl (hb hby d7_80) (by decide) (by decide) k)
  show Goes p e below _ (sF T71 m 54 #[rv a1, rv r, iv (1 : Int32)] [])
  refine Goes.step ?_ (fun _ k => XS.iloadN X71.here hx rfl (hb hby d7_54) rfl  k)
  show Goes p e below _ (sF T71 m 55 #[rv a1, rv r, iv (1 : Int32)] [(.int (1 : Int32))])
  refine Goes.step ?_ (fun _ k => XS.aloadN X71.here hx rfl (hb hby d7_55) rfl rfl k)
  show Goes p e below _ (sF T71 m 56 #[rv a1, rv r, iv (1 : Int32)] [(.ref a1), (.int (1 : Int32))])
  have F_a1_columns_72 := (F_a1_columns_56.other W71 (Or.inl ne_a1_r13))
  obtain ⟨T73, X73, e73, st73⟩ := getF X71 hx hZ hown (host := "") (Or.inl (hw _ (List.mem_of_getElem? (i := 12) rfl))) Via.refl e71 F_a1_columns_72 (g := (mkF m 56 #[rv a1, rv r, iv (1 : Int32)] [(.ref a1), (.int (1 : Int32))])) rfl rfl (hb hby d7_56)
  refine Goes.step ?_ st73
  show Goes p e below _ (sF T73 m 59 #[rv a1, rv r, iv (1 : Int32)] [(.ref gA), (.int (1 : Int32))])
  have V_gA_74 := (V_55.other W71 ne_gA_r13)
  obtain ⟨cl75, Ar75, q75, S75, N_75, H75, G75⟩ := id V_gA_74
  refine Goes.step ?_ (fun _ k => X73.arraylength hx (by rw [e73]; exact Ar75.1) (State.isArrayOf_alike hZ.alike Ar75.2.1) (g := (mkF m 59 #[rv a1, rv r, iv (1 : Int32)] [(.ref gA), (.int (1 : Int32))])) rfl rfl (hb hby d7_59) _ k)
  rw [len_of S75 N_75]
  show Goes p e below _ (sF T73 m 60 #[rv a1, rv r, iv (1 : Int32)] [(.int (3 : Int32)), (.int (1 : Int32))])
  refine Goes.step ?_ (fun _ k => XS.icmpNo X73.here hx rfl (hb hby d7_60) rfl (tlt (by decide : (1 : Int32) < (3 : Int32))).2.1 k)
  show Goes p e below _ (sF T73 m 63 #[rv a1, rv r, iv (1 : Int32)] [])
  refine Goes.step ?_ (fun _ k => XS.aloadN X73.here hx rfl (hb hby d7_63) rfl rfl k)
  show Goes p e below _ (sF T73 m 64 #[rv a1, rv r, iv (1 : Int32)] [(.ref a1)])
  obtain ⟨T76, X76, e76, st76⟩ := getF X73 hx hZ hown (host := "") (Or.inl (hw _ (List.mem_of_getElem? (i := 12) rfl))) Via.refl e73 F_a1_columns_72 (g := (mkF m 64 #[rv a1, rv r, iv (1 : Int32)] [(.ref a1)])) rfl rfl (hb hby d7_64)
  refine Goes.step ?_ st76
  show Goes p e below _ (sF T76 m 67 #[rv a1, rv r, iv (1 : Int32)] [(.ref gA)])
  refine Goes.step ?_ (fun _ k => XS.iloadN X76.here hx rfl (hb hby d7_67) rfl  k)
  show Goes p e below _ (sF T76 m 68 #[rv a1, rv r, iv (1 : Int32)] [(.int (1 : Int32)), (.ref gA)])
  obtain ⟨cl77, Ar77, q77, S77, N_77, H77, G77⟩ := id V_gA_74
  have hin78 : ¬ ((1 : Int32) < 0 ∨ cl77.slots.size ≤ ((1 : Int32)).toNatClampNeg) := inb_of S77 ⟨by decide, by decide⟩
  have hat78 : cl77.slots[((1 : Int32)).toNatClampNeg]? = some (.ref r27) := H77.at hin78 rfl
  refine Goes.step ?_ (fun _ k => X76.aaload hx (j := (1 : Int32)) (v := (.ref r27)) (by rw [e76]; exact Ar77.1) (State.isArrayOf_alike hZ.alike Ar77.2.1) rfl Ar77.2.2 hin78 hat78 (g := (mkF m 68 #[rv a1, rv r, iv (1 : Int32)] [(.int (1 : Int32)), (.ref gA)])) rfl rfl (hb hby d7_68) _ k)
  show Goes p e below _ (sF T76 m 69 #[rv a1, rv r, iv (1 : Int32)] [(.ref r27)])
  refine Goes.step ?_ (fun _ k => XS.aloadN X76.here hx rfl (hb hby d7_69) rfl rfl k)
  show Goes p e below _ (sF T76 m 70 #[rv a1, rv r, iv (1 : Int32)] [(.ref a1), (.ref r27)])
  have F_a1_size_79 := (F_a1_size_64.other W71 (Or.inl ne_a1_r13))
  obtain ⟨T80, X80, e80, st80⟩ := getF X76 hx hZ hown (host := "") (Or.inl (hw _ (List.mem_of_getElem? (i := 19) rfl))) Via.refl e76 F_a1_size_79 (g := (mkF m 70 #[rv a1, rv r, iv (1 : Int32)] [(.ref a1), (.ref r27)])) rfl rfl (hb hby d7_70)
  refine Goes.step ?_ st80
  show Goes p e below _ (sF T80 m 73 #[rv a1, rv r, iv (1 : Int32)] [(.int (2 : Int32)), (.ref r27)])
  refine Goes.step ?_ (fun _ k => XS.aloadN X80.here hx rfl (hb hby d7_73) rfl rfl k)
  show Goes p e below _ (sF T80 m 74 #[rv a1, rv r, iv (1 : Int32)] [(.ref r), (.int (2 : Int32)), (.ref r27)])
  refine Goes.step ?_ (fun _ k => XS.iloadN X80.here hx rfl (hb hby d7_74) rfl  k)
  show Goes p e below _ (sF T80 m 75 #[rv a1, rv r, iv (1 : Int32)] [(.int (1 : Int32)), (.ref r), (.int (2 : Int32)), (.ref r27)])
  have V_r_81 := (V_r_66.other W71 ne_r_r13)
  obtain ⟨cl82, Ar82, q82, S82, N_82, H82, G82⟩ := id V_r_81
  have hin83 : ¬ ((1 : Int32) < 0 ∨ cl82.slots.size ≤ ((1 : Int32)).toNatClampNeg) := inb_of S82 ⟨by decide, by decide⟩
  have hat83 : cl82.slots[((1 : Int32)).toNatClampNeg]? = some (.int y1) := H82.at hin83 rfl
  refine Goes.step ?_ (fun _ k => X80.iaload hx (j := (1 : Int32)) (v := (.int y1)) (by rw [e80]; exact Ar82.1) (State.isArrayOf_alike hZ.alike Ar82.2.1) Ar82.2.2 hin83 hat83 (g := (mkF m 75 #[rv a1, rv r, iv (1 : Int32)] [(.int (1 : Int32)), (.ref r), (.int (2 : Int32)), (.ref r27)])) rfl rfl (hb hby d7_75) _ k)
  show Goes p e below _ (sF T80 m 76 #[rv a1, rv r, iv (1 : Int32)] [(.int y1), (.int (2 : Int32)), (.ref r27)])
  have V_r27_84 := (((V_r27_52.ext E46).other W55 (Ne.symm ne_gA_r27)).other W71 (Ne.symm ne_r13_r27))
  obtain ⟨cl85, Ar85, q85, S85, N_85, H85, G85⟩ := id V_r27_84
  have hin86 : ¬ ((2 : Int32) < 0 ∨ cl85.slots.size ≤ ((2 : Int32)).toNatClampNeg) := inb_of S85 ⟨by decide, by decide⟩
  obtain ⟨T86, h86, X86, e86, W86, st86⟩ := stI X80 hx hZ e80 Ar85 (j := (2 : Int32)) hin86 (g := (mkF m 76 #[rv a1, rv r, iv (1 : Int32)] [(.int y1), (.int (2 : Int32)), (.ref r27)])) rfl rfl (hb hby d7_76)
  have V_86 : Arv Z h86 r27 kr27 .int (4 : Int32) [(.int d1_0), (.int d1_1), (.int y1), (.int (0 : Int32))] (.int (0 : Int32)) := Arv.set Ar85 q85 S85 N_85 H85 G85 rfl W86 2 rfl (Nat.le_of_ble_eq_true rfl)
  have Zs86 : n0 ≤ h86.size := Nat.le_trans Zs71 (Keep.of_wr W86).1
  have N86 := Fr.snoc X86 N71 g_r27
  refine Goes.step ?_ st86
  show Goes p e below _ (sF T86 m 77 #[rv a1, rv r, iv (1 : Int32)] [])
  refine Goes.step ?_ (fun _ k => XS.iinc X86.here hx rfl (hb hby d7_77) rfl (l' := #[rv a1, rv r, iv ((1 : Int32) + (1 : Int32))]) rfl k)
  show Goes p e below _ (sF T86 m 80 #[rv a1, rv r, iv ((1 : Int32) + (1 : Int32))] [])
  rw [show ((1 : Int32) + (1 : Int32)) = (2 : Int32) from by decide]
  show Goes p e below _ (sF T86 m 80 #[rv a1, rv r, iv (2 : Int32)] [])
  refine Goes.step ?_ (fun _ k => XS.goto X86.here hx rfl (pc0 := 80) (pc' := 54) rfl (hb hby d7_80) (by decide) (by decide) k)
  show Goes p e below _ (sF T86 m 54 #[rv a1, rv r, iv (2 : Int32)] [])
  refine Goes.step ?_ (fun _ k => XS.iloadN X86.here hx rfl (hb hby d7_54) rfl  k)
  show Goes p e below _ (sF T86 m 55 #[rv a1, rv r, iv (2 : Int32)] [(.int (2 : Int32))])
  refine Goes.step ?_ (fun _ k => XS.aloadN X86.here hx rfl (hb hby d7_55) rfl rfl k)
  show Goes p e below _ (sF T86 m 56 #[rv a1, rv r, iv (2 : Int32)] [(.ref a1), (.int (2 : Int32))])
  have F_a1_columns_87 := (F_a1_columns_72.other W86 (Or.inl ne_a1_r27))
  obtain ⟨T88, X88, e88, st88⟩ := getF X86 hx hZ hown (host := "") (Or.inl (hw _ (List.mem_of_getElem? (i := 12) rfl))) Via.refl e86 F_a1_columns_87 (g := (mkF m 56 #[rv a1, rv r, iv (2 : Int32)] [(.ref a1), (.int (2 : Int32))])) rfl rfl (hb hby d7_56)
  refine Goes.step ?_ st88
  show Goes p e below _ (sF T88 m 59 #[rv a1, rv r, iv (2 : Int32)] [(.ref gA), (.int (2 : Int32))])
  have V_gA_89 := (V_gA_74.other W86 ne_gA_r27)
  obtain ⟨cl90, Ar90, q90, S90, N_90, H90, G90⟩ := id V_gA_89
  refine Goes.step ?_ (fun _ k => X88.arraylength hx (by rw [e88]; exact Ar90.1) (State.isArrayOf_alike hZ.alike Ar90.2.1) (g := (mkF m 59 #[rv a1, rv r, iv (2 : Int32)] [(.ref gA), (.int (2 : Int32))])) rfl rfl (hb hby d7_59) _ k)
  rw [len_of S90 N_90]
  show Goes p e below _ (sF T88 m 60 #[rv a1, rv r, iv (2 : Int32)] [(.int (3 : Int32)), (.int (2 : Int32))])
  refine Goes.step ?_ (fun _ k => XS.icmpNo X88.here hx rfl (hb hby d7_60) rfl (tlt (by decide : (2 : Int32) < (3 : Int32))).2.1 k)
  show Goes p e below _ (sF T88 m 63 #[rv a1, rv r, iv (2 : Int32)] [])
  refine Goes.step ?_ (fun _ k => XS.aloadN X88.here hx rfl (hb hby d7_63) rfl rfl k)
  show Goes p e below _ (sF T88 m 64 #[rv a1, rv r, iv (2 : Int32)] [(.ref a1)])
  obtain ⟨T91, X91, e91, st91⟩ := getF X88 hx hZ hown (host := "") (Or.inl (hw _ (List.mem_of_getElem? (i := 12) rfl))) Via.refl e88 F_a1_columns_87 (g := (mkF m 64 #[rv a1, rv r, iv (2 : Int32)] [(.ref a1)])) rfl rfl (hb hby d7_64)
  refine Goes.step ?_ st91
  show Goes p e below _ (sF T91 m 67 #[rv a1, rv r, iv (2 : Int32)] [(.ref gA)])
  refine Goes.step ?_ (fun _ k => XS.iloadN X91.here hx rfl (hb hby d7_67) rfl  k)
  show Goes p e below _ (sF T91 m 68 #[rv a1, rv r, iv (2 : Int32)] [(.int (2 : Int32)), (.ref gA)])
  obtain ⟨cl92, Ar92, q92, S92, N_92, H92, G92⟩ := id V_gA_89
  have hin93 : ¬ ((2 : Int32) < 0 ∨ cl92.slots.size ≤ ((2 : Int32)).toNatClampNeg) := inb_of S92 ⟨by decide, by decide⟩
  have hat93 : cl92.slots[((2 : Int32)).toNatClampNeg]? = some (.ref r46) := H92.at hin93 rfl
  refine Goes.step ?_ (fun _ k => X91.aaload hx (j := (2 : Int32)) (v := (.ref r46)) (by rw [e91]; exact Ar92.1) (State.isArrayOf_alike hZ.alike Ar92.2.1) rfl Ar92.2.2 hin93 hat93 (g := (mkF m 68 #[rv a1, rv r, iv (2 : Int32)] [(.int (2 : Int32)), (.ref gA)])) rfl rfl (hb hby d7_68) _ k)
  show Goes p e below _ (sF T91 m 69 #[rv a1, rv r, iv (2 : Int32)] [(.ref r46)])
  refine Goes.step ?_ (fun _ k => XS.aloadN X91.here hx rfl (hb hby d7_69) rfl rfl k)
  show Goes p e below _ (sF T91 m 70 #[rv a1, rv r, iv (2 : Int32)] [(.ref a1), (.ref r46)])
  have F_a1_size_94 := (F_a1_size_79.other W86 (Or.inl ne_a1_r27))
  obtain ⟨T95, X95, e95, st95⟩ := getF X91 hx hZ hown (host := "") (Or.inl (hw _ (List.mem_of_getElem? (i := 19) rfl))) Via.refl e91 F_a1_size_94 (g := (mkF m 70 #[rv a1, rv r, iv (2 : Int32)] [(.ref a1), (.ref r46)])) rfl rfl (hb hby d7_70)
  refine Goes.step ?_ st95
  show Goes p e below _ (sF T95 m 73 #[rv a1, rv r, iv (2 : Int32)] [(.int (2 : Int32)), (.ref r46)])
  refine Goes.step ?_ (fun _ k => XS.aloadN X95.here hx rfl (hb hby d7_73) rfl rfl k)
  show Goes p e below _ (sF T95 m 74 #[rv a1, rv r, iv (2 : Int32)] [(.ref r), (.int (2 : Int32)), (.ref r46)])
  refine Goes.step ?_ (fun _ k => XS.iloadN X95.here hx rfl (hb hby d7_74) rfl  k)
  show Goes p e below _ (sF T95 m 75 #[rv a1, rv r, iv (2 : Int32)] [(.int (2 : Int32)), (.ref r), (.int (2 : Int32)), (.ref r46)])
  have V_r_96 := (V_r_81.other W86 ne_r_r27)
  obtain ⟨cl97, Ar97, q97, S97, N_97, H97, G97⟩ := id V_r_96
  have hin98 : ¬ ((2 : Int32) < 0 ∨ cl97.slots.size ≤ ((2 : Int32)).toNatClampNeg) := inb_of S97 ⟨by decide, by decide⟩
  have hat98 : cl97.slots[((2 : Int32)).toNatClampNeg]? = some (.int y2) := H97.at hin98 rfl
  refine Goes.step ?_ (fun _ k => X95.iaload hx (j := (2 : Int32)) (v := (.int y2)) (by rw [e95]; exact Ar97.1) (State.isArrayOf_alike hZ.alike Ar97.2.1) Ar97.2.2 hin98 hat98 (g := (mkF m 75 #[rv a1, rv r, iv (2 : Int32)] [(.int (2 : Int32)), (.ref r), (.int (2 : Int32)), (.ref r46)])) rfl rfl (hb hby d7_75) _ k)
  show Goes p e below _ (sF T95 m 76 #[rv a1, rv r, iv (2 : Int32)] [(.int y2), (.int (2 : Int32)), (.ref r46)])
  have V_r46_99 := (((Vr46.other W55 (Ne.symm ne_gA_r46)).other W71 (Ne.symm ne_r13_r46)).other W86 (Ne.symm ne_r27_r46))
  obtain ⟨cl100, Ar100, q100, S100, N_100, H100, G100⟩ := id V_r46_99
  have hin101 : ¬ ((2 : Int32) < 0 ∨ cl100.slots.size ≤ ((2 : Int32)).toNatClampNeg) := inb_of S100 ⟨by decide, by decide⟩
  obtain ⟨T101, h101, X101, e101, W101, st101⟩ := stI X95 hx hZ e95 Ar100 (j := (2 : Int32)) hin101 (g := (mkF m 76 #[rv a1, rv r, iv (2 : Int32)] [(.int y2), (.int (2 : Int32)), (.ref r46)])) rfl rfl (hb hby d7_76)
  have V_101 : Arv Z h101 r46 kr46 .int (4 : Int32) [(.int d2_0), (.int d2_1), (.int y2), (.int (0 : Int32))] (.int (0 : Int32)) := Arv.set Ar100 q100 S100 N_100 H100 G100 rfl W101 2 rfl (Nat.le_of_ble_eq_true rfl)
  have Zs101 : n0 ≤ h101.size := Nat.le_trans Zs86 (Keep.of_wr W101).1
  have N101 := Fr.snoc X101 N86 g_r46
  refine Goes.step ?_ st101
  show Goes p e below _ (sF T101 m 77 #[rv a1, rv r, iv (2 : Int32)] [])
  refine Goes.step ?_ (fun _ k => XS.iinc X101.here hx rfl (hb hby d7_77) rfl (l' := #[rv a1, rv r, iv ((2 : Int32) + (1 : Int32))]) rfl k)
  show Goes p e below _ (sF T101 m 80 #[rv a1, rv r, iv ((2 : Int32) + (1 : Int32))] [])
  rw [show ((2 : Int32) + (1 : Int32)) = (3 : Int32) from by decide]
  show Goes p e below _ (sF T101 m 80 #[rv a1, rv r, iv (3 : Int32)] [])
  refine Goes.step ?_ (fun _ k => XS.goto X101.here hx rfl (pc0 := 80) (pc' := 54) rfl (hb hby d7_80) (by decide) (by decide) k)
  show Goes p e below _ (sF T101 m 54 #[rv a1, rv r, iv (3 : Int32)] [])
  refine Goes.step ?_ (fun _ k => XS.iloadN X101.here hx rfl (hb hby d7_54) rfl  k)
  show Goes p e below _ (sF T101 m 55 #[rv a1, rv r, iv (3 : Int32)] [(.int (3 : Int32))])
  refine Goes.step ?_ (fun _ k => XS.aloadN X101.here hx rfl (hb hby d7_55) rfl rfl k)
  show Goes p e below _ (sF T101 m 56 #[rv a1, rv r, iv (3 : Int32)] [(.ref a1), (.int (3 : Int32))])
  have F_a1_columns_102 := (F_a1_columns_87.other W101 (Or.inl ne_a1_r46))
  obtain ⟨T103, X103, e103, st103⟩ := getF X101 hx hZ hown (host := "") (Or.inl (hw _ (List.mem_of_getElem? (i := 12) rfl))) Via.refl e101 F_a1_columns_102 (g := (mkF m 56 #[rv a1, rv r, iv (3 : Int32)] [(.ref a1), (.int (3 : Int32))])) rfl rfl (hb hby d7_56)
  refine Goes.step ?_ st103
  show Goes p e below _ (sF T103 m 59 #[rv a1, rv r, iv (3 : Int32)] [(.ref gA), (.int (3 : Int32))])
  have V_gA_104 := (V_gA_89.other W101 ne_gA_r46)
  obtain ⟨cl105, Ar105, q105, S105, N_105, H105, G105⟩ := id V_gA_104
  refine Goes.step ?_ (fun _ k => X103.arraylength hx (by rw [e103]; exact Ar105.1) (State.isArrayOf_alike hZ.alike Ar105.2.1) (g := (mkF m 59 #[rv a1, rv r, iv (3 : Int32)] [(.ref gA), (.int (3 : Int32))])) rfl rfl (hb hby d7_59) _ k)
  rw [len_of S105 N_105]
  show Goes p e below _ (sF T103 m 60 #[rv a1, rv r, iv (3 : Int32)] [(.int (3 : Int32)), (.int (3 : Int32))])
  refine Goes.step ?_ (fun _ k => XS.icmpYes X103.here hx rfl (pc0 := 60) (pc' := 83) rfl (hb hby d7_60) rfl (flt (by decide : ¬ ((3 : Int32) < (3 : Int32)))).2.1 (by decide) (by decide) k)
  show Goes p e below _ (sF T103 m 83 #[rv a1, rv r, iv (3 : Int32)] [])
  refine Goes.step ?_ (fun _ k => XS.aloadN X103.here hx rfl (hb hby d7_83) rfl rfl k)
  show Goes p e below _ (sF T103 m 84 #[rv a1, rv r, iv (3 : Int32)] [(.ref a1)])
  refine Goes.step ?_ (fun _ k => XS.dup X103.here hx rfl (hb hby d7_84) rfl rfl k)
  show Goes p e below _ (sF T103 m 85 #[rv a1, rv r, iv (3 : Int32)] [(.ref a1), (.ref a1)])
  have F_a1_size_106 := (F_a1_size_94.other W101 (Or.inl ne_a1_r46))
  obtain ⟨T107, X107, e107, st107⟩ := getF X103 hx hZ hown (host := "") (Or.inl (hw _ (List.mem_of_getElem? (i := 19) rfl))) Via.refl e103 F_a1_size_106 (g := (mkF m 85 #[rv a1, rv r, iv (3 : Int32)] [(.ref a1), (.ref a1)])) rfl rfl (hb hby d7_85)
  refine Goes.step ?_ st107
  show Goes p e below _ (sF T107 m 88 #[rv a1, rv r, iv (3 : Int32)] [(.int (2 : Int32)), (.ref a1)])
  refine Goes.step ?_ (fun _ k => XS.iconst X107.here hx rfl (hb hby d7_88) k)
  show Goes p e below _ (sF T107 m 89 #[rv a1, rv r, iv (3 : Int32)] [(.int (1 : Int32)), (.int (2 : Int32)), (.ref a1)])
  refine Goes.step ?_ (fun _ k => XS.iadd X107.here hx rfl (hb hby d7_89) rfl k)
  show Goes p e below _ (sF T107 m 90 #[rv a1, rv r, iv (3 : Int32)] [(.int ((2 : Int32) + (1 : Int32))), (.ref a1)])
  rw [show ((2 : Int32) + (1 : Int32)) = (3 : Int32) from by decide]
  show Goes p e below _ (sF T107 m 90 #[rv a1, rv r, iv (3 : Int32)] [(.int (3 : Int32)), (.ref a1)])
  have E_a1_109 := (((((((((E_a1.ext E13).wr W16).ext E27).wr W35).ext E46).wr W55).wr W71).wr W86).wr W101)
  obtain ⟨T108, h108, X108, e108, W108, st108⟩ := putF X107 hx hZ hown (host := "") (Or.inl (hw _ (List.mem_of_getElem? (i := 19) rfl))) Via.refl e107 F_a1_size_106 E_a1_109 (Or.inl (hw _ (List.mem_of_getElem? (i := 20) rfl))) (hw _ (List.mem_of_getElem? (i := 2) rfl)) (ty := .int) (by decide) rfl rfl (g := (mkF m 90 #[rv a1, rv r, iv (3 : Int32)] [(.int (3 : Int32)), (.ref a1)])) rfl rfl (hb hby d7_90)
  have Fw108 := F_a1_size_106.same W108
  have Zs108 : n0 ≤ h108.size := Nat.le_trans Zs101 (Keep.of_wr W108).1
  have N108 := Fr.snoc X108 N101 g_a1
  refine Goes.step ?_ st108
  show Goes p e below _ (sF T108 m 93 #[rv a1, rv r, iv (3 : Int32)] [])
  refine own_outV X108 hx hlk hret (hb hby d7_93) ?_ (by decide) (by decide)
  show QAdd3_2 Z a1 gA kA y0 y1 y2 d0_0 d0_1 d1_0 d1_1 d2_0 d2_1 h0 n0 _ T108.heap _
  rw [e108]
  exact ⟨r13, r27, r46, kr13, kr27, kr46, rfl, N108, ((((((K_47.ext E46).wr W55 (Or.inl (List.mem_of_getElem? (i := 1) rfl))).wr W71 (Or.inr sz_r13)).wr W86 (Or.inr sz_r27)).wr W101 (Or.inr sz_r46)).wr W108 (Or.inl (List.mem_of_getElem? (i := 0) rfl))), (F_a1_columns_102.other W108 (Or.inr (slot_ne (Or.inr (hw _ (List.mem_of_getElem? (i := 13) rfl))) (Or.inl (hw _ (List.mem_of_getElem? (i := 20) rfl))) (by decide) (t := (.array (.array .int))) (t' := .int) (by decide) (by decide)))), Fw108, (V_gA_104.other W108 (Ne.symm ne_a1_gA)), (((V_71.other W86 ne_r13_r27).other W101 ne_r13_r46).other W108 (Ne.symm ne_a1_r13)), (((((((((A13.wr W16).ext E27).wr W35).ext E46).wr W55).wr W71).wr W86).wr W101).wr W108), ((V_86.other W101 ne_r27_r46).other W108 (Ne.symm ne_a1_r27)), (((((((A27.wr W35).ext E46).wr W55).wr W71).wr W86).wr W101).wr W108), (V_101.other W108 (Ne.symm ne_a1_r46)), (((((A46.wr W55).wr W71).wr W86).wr W101).wr W108), sz_r13, sz_r27, sz_r46, ne_r13_r27, ne_r13_r46, ne_r27_r46⟩
def Q0 (n0 : Nat) (v : Option Value) (h : Heap) (L : List Loc) : Prop := v = some (.int 1) ∧ Fr n0 L
theorem pd__28I_29_5bI : parseMethodDescriptor "(I)[I" = some ⟨[.int], some (.array .int)⟩ := by decide +kernel
theorem pd__28_29I : parseMethodDescriptor "()I" = some ⟨[], some .int⟩ := by decide +kernel
set_option maxRecDepth 65536 in
set_option maxHeartbeats 40000000 in
theorem tail136_0 {p : Program} {l : Launch} {e : Env} {s : State} {m : MethodId} {args : Array Value} {below : List Frame} {meth : Method} {c : Code} {T0 : State} {locs : List Loc} {Z : State} {a0 : Array Value} {h0 : Heap} {n0 : Nat} (p1 : Int32) (p2 : Int32) (p3 : Int32) (p4 : Int32) (p5 : Int32) (p6 : Int32) (z : Int32) (ci : Int32) (r0 : Addr) (r1 : Addr) (r2 : Addr) (k0 : ClassId) (k1 : ClassId) (k2 : ClassId) (l0 : List Value) (l1 : List Value) (l2 : List Value) (o : Addr) (gA : Addr) (kA : ClassId) (gl : List Value) (x : Addr) (kx : ClassId) (y0 : Int32) (y1 : Int32) (y2 : Int32) (d0 : Int32)
    (X0 : Stand p l e room_1 s m args below meth c T0 locs (20) (100)) (hx : p.tables.exec = Jvm.exec) (hZ : Z.Warmed39 s.vm) (hw : ∀ d ∈ tables_1, d.before a0 Z = true) (hby : c.code = code) (hlk : meth.locks = false) (hret : meth.sig.returnType = some .boolean) (hml : c.maxLocals = 16) (hown : s.vm.findClass "com/example/clio/clio/repository/ColumnsColumnPinLaw" = some m.cls) (e0 : T0.heap = h0) (N0 : Fr n0 locs) (Z0 : n0 ≤ h0.size) (F_columns : Fld Z h0 o "com/example/clio/clio/repository/Columns" "columns" "[[I" (.ref gA)) (F_size : Fld Z h0 o "com/example/clio/clio/repository/Columns" "size" "I" (.int (0 : Int32))) (E_o : Exa Z h0 o "com/example/clio/clio/repository/Columns") (V_gA : Arv Z h0 gA kA (.array .int) z gl .null) (hin : ¬ ci < 0 ∧ ci < z) (hcin3 : ¬ ci < 0 ∧ ci < 3) (hel : gl.getD ci.toNatClampNeg .null = .ref x) (V_x : Arv Z h0 x kx .int (1 : Int32) [(.int d0)] (.int (0 : Int32))) (E_x : Exa Z h0 x "[I") (V_r0 : Arv Z h0 r0 k0 .int (3 : Int32) l0 (.int (0 : Int32))) (V_r1 : Arv Z h0 r1 k1 .int (3 : Int32) l1 (.int (0 : Int32))) (V_r2 : Arv Z h0 r2 k2 .int (3 : Int32) l2 (.int (0 : Int32))) (hy0 : l0.getD ci.toNatClampNeg (.int (0 : Int32)) = .int y0) (hy1 : l1.getD ci.toNatClampNeg (.int (0 : Int32)) = .int y1) (hy2 : l2.getD ci.toNatClampNeg (.int (0 : Int32)) = .int y2) :
    Goes p e below (fun o U' => ∃ v L, o = .returned v ∧ Q0 n0 v U'.heap L ∧ FrameEnd s o U' L room_1.cells room_1.slots) (T0.setTop (mkF m 136 #[iv p1, iv p2, iv p3, iv p4, iv p5, iv p6, iv z, iv (0 : Int32), iv ci, rv r0, rv r1, rv r2, rv o, .unset, .unset, .unset] [])) := by
  show Goes p e below _ (sF T0 m 136 #[iv p1, iv p2, iv p3, iv p4, iv p5, iv p6, iv z, iv (0 : Int32), iv ci, rv r0, rv r1, rv r2, rv o, .unset, .unset, .unset] [])
  refine Goes.step ?_ (fun _ k => XS.aload X0.here hx rfl (hb hby at_136) rfl rfl k)
  show Goes p e below _ (sF T0 m 138 #[iv p1, iv p2, iv p3, iv p4, iv p5, iv p6, iv z, iv (0 : Int32), iv ci, rv r0, rv r1, rv r2, rv o, .unset, .unset, .unset] [(.ref o)])
  refine Goes.step ?_ (fun _ k => XS.iload X0.here hx rfl (hb hby at_138) rfl  k)
  show Goes p e below _ (sF T0 m 140 #[iv p1, iv p2, iv p3, iv p4, iv p5, iv p6, iv z, iv (0 : Int32), iv ci, rv r0, rv r1, rv r2, rv o, .unset, .unset, .unset] [(.int ci), (.ref o)])
  obtain ⟨cq1, kq1, q1a, q1b, q1c⟩ := isOf hZ e0 E_o
  obtain ⟨_, _, ⟨T1, L1, k1, n1⟩, -, X1, ⟨Lc1, hQ1, l1, y1, z1⟩, st1⟩ := X0.virtualBack hx (y := (⟨"com/example/clio/clio/repository/Columns", "column", "(I)[I"⟩ : MethodName)) (z := (⟨"com/example/clio/clio/repository/Columns", "column", "(I)[I"⟩ : MethodName)) hown (mvT hZ (hw _ (List.mem_of_getElem? (i := 14) rfl))) (mvT hZ (hw _ (List.mem_of_getElem? (i := 15) rfl))) (notFace_of_selects (args := #[]) (mvT hZ (hw _ (List.mem_of_getElem? (i := 17) rfl)))) (mvT hZ (hw _ (List.mem_of_getElem? (i := 17) rfl))) (mvT hZ (hw _ (List.mem_of_getElem? (i := 16) rfl))) (by decide) (backOf (W := 0) (rmCol0 l Z a0 hw [] o ci gA kA z gl x kx d0 h0 n0 Z0 F_columns F_size V_gA hin hel V_x E_x) hZ (hw _ (List.mem_of_getElem? (i := 18) rfl)) (hw _ (List.mem_of_getElem? (i := 3) rfl)) (by decide) (by decide)) q1a q1c (g := (mkF m 140 #[iv p1, iv p2, iv p3, iv p4, iv p5, iv p6, iv z, iv (0 : Int32), iv ci, rv r0, rv r1, rv r2, rv o, .unset, .unset, .unset] [(.int ci), (.ref o)])) rfl (by rw [hml]; rfl) (Steps.refl _) (argsL := [(.int ci)]) (rest := []) (lenOf pd__28I_29_5bI rfl) rfl (by show 2 * 0 + _ ≤ _; exact Nat.le_of_eq rfl) (hb hby at_140) (fun _ _ => ⟨rfl, e0, (by decide : 20 + 1 ≤ _), (by decide : 100 + 4 ≤ _)⟩)
  dsimp only [Pt.U, Pt.locs, Pt.cells, Pt.slots] at X1 l1 y1 z1 st1 hQ1
  subst l1 y1 z1
  obtain ⟨g1r, kr1, rfl, N1q, E1, gr1, Vr1, A1⟩ := hQ1
  have N1 := Fr.app N0 N1q
  refine Goes.step ?_ (fun _ k => st1.trans k)
  have g_g1r : n0 ≤ g1r := Nat.le_trans Z0 gr1
  have ne_o_g1r : o ≠ g1r := Nat.ne_of_lt (Nat.lt_of_lt_of_le F_columns.lt gr1)
  have ne_gA_g1r : gA ≠ g1r := Nat.ne_of_lt (Nat.lt_of_lt_of_le V_gA.lt gr1)
  have ne_x_g1r : x ≠ g1r := Nat.ne_of_lt (Nat.lt_of_lt_of_le V_x.lt gr1)
  have ne_r0_g1r : r0 ≠ g1r := Nat.ne_of_lt (Nat.lt_of_lt_of_le V_r0.lt gr1)
  have ne_r1_g1r : r1 ≠ g1r := Nat.ne_of_lt (Nat.lt_of_lt_of_le V_r1.lt gr1)
  have ne_r2_g1r : r2 ≠ g1r := Nat.ne_of_lt (Nat.lt_of_lt_of_le V_r2.lt gr1)
  have Zs1 : n0 ≤ T1.heap.size := Nat.le_trans Z0 E1.1
  show Goes p e below _ (sF T1 m 143 #[iv p1, iv p2, iv p3, iv p4, iv p5, iv p6, iv z, iv (0 : Int32), iv ci, rv r0, rv r1, rv r2, rv o, .unset, .unset, .unset] [(.ref g1r)])
  refine Goes.step ?_ (fun _ k => XS.astore X1.here hx rfl (hb hby at_143) rfl rfl (l' := #[iv p1, iv p2, iv p3, iv p4, iv p5, iv p6, iv z, iv (0 : Int32), iv ci, rv r0, rv r1, rv r2, rv o, rv g1r, .unset, .unset]) rfl k)
  show Goes p e below _ (sF T1 m 145 #[iv p1, iv p2, iv p3, iv p4, iv p5, iv p6, iv z, iv (0 : Int32), iv ci, rv r0, rv r1, rv r2, rv o, rv g1r, .unset, .unset] [])
  refine Goes.step ?_ (fun _ k => XS.aload X1.here hx rfl (hb hby at_145) rfl rfl k)
  show Goes p e below _ (sF T1 m 147 #[iv p1, iv p2, iv p3, iv p4, iv p5, iv p6, iv z, iv (0 : Int32), iv ci, rv r0, rv r1, rv r2, rv o, rv g1r, .unset, .unset] [(.ref g1r)])
  obtain ⟨cl2, Ar2, q2, S2, N_2, H2, G2⟩ := id Vr1
  refine Goes.step ?_ (fun _ k => X1.arraylength hx Ar2.1 (State.isArrayOf_alike hZ.alike Ar2.2.1) (g := (mkF m 147 #[iv p1, iv p2, iv p3, iv p4, iv p5, iv p6, iv z, iv (0 : Int32), iv ci, rv r0, rv r1, rv r2, rv o, rv g1r, .unset, .unset] [(.ref g1r)])) rfl rfl (hb hby at_147) _ k)
  rw [len_of S2 N_2]
  show Goes p e below _ (sF T1 m 148 #[iv p1, iv p2, iv p3, iv p4, iv p5, iv p6, iv z, iv (0 : Int32), iv ci, rv r0, rv r1, rv r2, rv o, rv g1r, .unset, .unset] [(.int (0 : Int32))])
  refine Goes.step ?_ (fun _ k => XS.iload X1.here hx rfl (hb hby at_148) rfl  k)
  show Goes p e below _ (sF T1 m 150 #[iv p1, iv p2, iv p3, iv p4, iv p5, iv p6, iv z, iv (0 : Int32), iv ci, rv r0, rv r1, rv r2, rv o, rv g1r, .unset, .unset] [(.int (0 : Int32)), (.int (0 : Int32))])
  refine Goes.step ?_ (fun _ k => XS.icmpYes X1.here hx rfl (pc0 := 150) (pc' := 155) rfl (hb hby at_150) rfl (teq (by decide : (0 : Int32) = (0 : Int32))).1 (by decide) (by decide) k)
  show Goes p e below _ (sF T1 m 155 #[iv p1, iv p2, iv p3, iv p4, iv p5, iv p6, iv z, iv (0 : Int32), iv ci, rv r0, rv r1, rv r2, rv o, rv g1r, .unset, .unset] [])
  refine Goes.step ?_ (fun _ k => XS.iload X1.here hx rfl (hb hby at_155) rfl  k)
  show Goes p e below _ (sF T1 m 157 #[iv p1, iv p2, iv p3, iv p4, iv p5, iv p6, iv z, iv (0 : Int32), iv ci, rv r0, rv r1, rv r2, rv o, rv g1r, .unset, .unset] [(.int (0 : Int32))])
  refine Goes.step ?_ (fun _ k => XS.ifYes X1.here hx rfl (pc0 := 157) (pc' := 174) rfl (hb hby at_157) rfl ((if0 _ _).trans (flt (by decide : ¬ ((0 : Int32) < (0 : Int32)))).2.2.2) (by decide) (by decide) k)
  show Goes p e below _ (sF T1 m 174 #[iv p1, iv p2, iv p3, iv p4, iv p5, iv p6, iv z, iv (0 : Int32), iv ci, rv r0, rv r1, rv r2, rv o, rv g1r, .unset, .unset] [])
  refine Goes.step ?_ (fun _ k => XS.iload X1.here hx rfl (hb hby at_174) rfl  k)
  show Goes p e below _ (sF T1 m 176 #[iv p1, iv p2, iv p3, iv p4, iv p5, iv p6, iv z, iv (0 : Int32), iv ci, rv r0, rv r1, rv r2, rv o, rv g1r, .unset, .unset] [(.int (0 : Int32))])
  refine Goes.step ?_ (fun _ k => XS.iconst X1.here hx rfl (hb hby at_176) k)
  show Goes p e below _ (sF T1 m 177 #[iv p1, iv p2, iv p3, iv p4, iv p5, iv p6, iv z, iv (0 : Int32), iv ci, rv r0, rv r1, rv r2, rv o, rv g1r, .unset, .unset] [(.int (1 : Int32)), (.int (0 : Int32))])
  refine Goes.step ?_ (fun _ k => XS.icmpYes X1.here hx rfl (pc0 := 177) (pc' := 194) rfl (hb hby at_177) rfl (flt (by decide : ¬ ((1 : Int32) < (0 : Int32)))).2.2.2 (by decide) (by decide) k)
  show Goes p e below _ (sF T1 m 194 #[iv p1, iv p2, iv p3, iv p4, iv p5, iv p6, iv z, iv (0 : Int32), iv ci, rv r0, rv r1, rv r2, rv o, rv g1r, .unset, .unset] [])
  refine Goes.step ?_ (fun _ k => XS.iload X1.here hx rfl (hb hby at_194) rfl  k)
  show Goes p e below _ (sF T1 m 196 #[iv p1, iv p2, iv p3, iv p4, iv p5, iv p6, iv z, iv (0 : Int32), iv ci, rv r0, rv r1, rv r2, rv o, rv g1r, .unset, .unset] [(.int (0 : Int32))])
  refine Goes.step ?_ (fun _ k => XS.iconst X1.here hx rfl (hb hby at_196) k)
  show Goes p e below _ (sF T1 m 197 #[iv p1, iv p2, iv p3, iv p4, iv p5, iv p6, iv z, iv (0 : Int32), iv ci, rv r0, rv r1, rv r2, rv o, rv g1r, .unset, .unset] [(.int (2 : Int32)), (.int (0 : Int32))])
  refine Goes.step ?_ (fun _ k => XS.icmpYes X1.here hx rfl (pc0 := 197) (pc' := 214) rfl (hb hby at_197) rfl (flt (by decide : ¬ ((2 : Int32) < (0 : Int32)))).2.2.2 (by decide) (by decide) k)
  show Goes p e below _ (sF T1 m 214 #[iv p1, iv p2, iv p3, iv p4, iv p5, iv p6, iv z, iv (0 : Int32), iv ci, rv r0, rv r1, rv r2, rv o, rv g1r, .unset, .unset] [])
  refine Goes.step ?_ (fun _ k => XS.iload X1.here hx rfl (hb hby at_214) rfl  k)
  show Goes p e below _ (sF T1 m 216 #[iv p1, iv p2, iv p3, iv p4, iv p5, iv p6, iv z, iv (0 : Int32), iv ci, rv r0, rv r1, rv r2, rv o, rv g1r, .unset, .unset] [(.int (0 : Int32))])
  refine Goes.step ?_ (fun _ k => XS.ifYes X1.here hx rfl (pc0 := 216) (pc' := 270) rfl (hb hby at_216) rfl ((if0 _ _).trans (flt (by decide : ¬ ((0 : Int32) < (0 : Int32)))).2.2.2) (by decide) (by decide) k)
  show Goes p e below _ (sF T1 m 270 #[iv p1, iv p2, iv p3, iv p4, iv p5, iv p6, iv z, iv (0 : Int32), iv ci, rv r0, rv r1, rv r2, rv o, rv g1r, .unset, .unset] [])
  refine Goes.step ?_ (fun _ k => XS.aload X1.here hx rfl (hb hby at_270) rfl rfl k)
  show Goes p e below _ (sF T1 m 272 #[iv p1, iv p2, iv p3, iv p4, iv p5, iv p6, iv z, iv (0 : Int32), iv ci, rv r0, rv r1, rv r2, rv o, rv g1r, .unset, .unset] [(.ref o)])
  have F_o_size_3 := (F_size.ext E1)
  have E_o_5 := (E_o.ext E1)
  obtain ⟨cq4, kq4, q4a, q4b, q4c⟩ := isOf hZ rfl E_o_5
  obtain ⟨_, _, ⟨T4, L4, k4, n4⟩, -, X4, ⟨Lc4, hQ4, l4, y4, z4⟩, st4⟩ := X1.virtualBack hx (y := (⟨"com/example/clio/clio/repository/Columns", "size", "()I"⟩ : MethodName)) (z := (⟨"com/example/clio/clio/repository/Columns", "size", "()I"⟩ : MethodName)) hown (mvT hZ (hw _ (List.mem_of_getElem? (i := 33) rfl))) (mvT hZ (hw _ (List.mem_of_getElem? (i := 34) rfl))) (notFace_of_selects (args := #[]) (mvT hZ (hw _ (List.mem_of_getElem? (i := 36) rfl)))) (mvT hZ (hw _ (List.mem_of_getElem? (i := 36) rfl))) (mvT hZ (hw _ (List.mem_of_getElem? (i := 35) rfl))) (by decide) (backOf (W := 0) (rmSize l Z a0 hw [] o (0 : Int32) T1.heap n0 Zs1 F_o_size_3) hZ (hw _ (List.mem_of_getElem? (i := 37) rfl)) (hw _ (List.mem_of_getElem? (i := 3) rfl)) (by decide) (by decide)) q4a q4c (g := (mkF m 272 #[iv p1, iv p2, iv p3, iv p4, iv p5, iv p6, iv z, iv (0 : Int32), iv ci, rv r0, rv r1, rv r2, rv o, rv g1r, .unset, .unset] [(.ref o)])) rfl (by rw [hml]; rfl) (Steps.refl _) (argsL := []) (rest := []) (lenOf pd__28_29I rfl) rfl (by show 2 * 0 + _ ≤ _; exact Nat.le_of_eq rfl) (hb hby at_272) (fun _ _ => ⟨rfl, rfl, (by decide : 20 + 1 + 0 ≤ _), (by decide : 100 + 4 + 0 ≤ _)⟩)
  dsimp only [Pt.U, Pt.locs, Pt.cells, Pt.slots] at X4 l4 y4 z4 st4 hQ4
  subst l4 y4 z4
  obtain ⟨rfl, N4q, e4⟩ := hQ4
  have N4 := Fr.app N1 N4q
  refine Goes.step ?_ (fun _ k => st4.trans k)
  show Goes p e below _ (sF T4 m 275 #[iv p1, iv p2, iv p3, iv p4, iv p5, iv p6, iv z, iv (0 : Int32), iv ci, rv r0, rv r1, rv r2, rv o, rv g1r, .unset, .unset] [(.int (0 : Int32))])
  refine Goes.step ?_ (fun _ k => XS.iload X4.here hx rfl (hb hby at_275) rfl  k)
  show Goes p e below _ (sF T4 m 277 #[iv p1, iv p2, iv p3, iv p4, iv p5, iv p6, iv z, iv (0 : Int32), iv ci, rv r0, rv r1, rv r2, rv o, rv g1r, .unset, .unset] [(.int (0 : Int32)), (.int (0 : Int32))])
  refine Goes.step ?_ (fun _ k => XS.icmpNo X4.here hx rfl (hb hby at_277) rfl (teq (by decide : (0 : Int32) = (0 : Int32))).2 k)
  show Goes p e below _ (sF T4 m 280 #[iv p1, iv p2, iv p3, iv p4, iv p5, iv p6, iv z, iv (0 : Int32), iv ci, rv r0, rv r1, rv r2, rv o, rv g1r, .unset, .unset] [])
  refine Goes.step ?_ (fun _ k => XS.iconst X4.here hx rfl (hb hby at_280) k)
  show Goes p e below _ (sF T4 m 281 #[iv p1, iv p2, iv p3, iv p4, iv p5, iv p6, iv z, iv (0 : Int32), iv ci, rv r0, rv r1, rv r2, rv o, rv g1r, .unset, .unset] [(.int (1 : Int32))])
  refine Goes.step ?_ (fun _ k => XS.goto X4.here hx rfl (pc0 := 281) (pc' := 285) rfl (hb hby at_281) (by decide) (by decide) k)
  show Goes p e below _ (sF T4 m 285 #[iv p1, iv p2, iv p3, iv p4, iv p5, iv p6, iv z, iv (0 : Int32), iv ci, rv r0, rv r1, rv r2, rv o, rv g1r, .unset, .unset] [(.int (1 : Int32))])
  refine own_out X4 hx hlk hret rfl (Or.inl ⟨rfl, by simp, _, rfl⟩) (hb hby at_285) ?_ (by decide) (by decide)
  show Q0 n0 _ T4.heap _
  rw [e4]
  exact ⟨rfl, N4⟩
set_option maxRecDepth 65536 in
set_option maxHeartbeats 40000000 in
theorem tail136_1 {p : Program} {l : Launch} {e : Env} {s : State} {m : MethodId} {args : Array Value} {below : List Frame} {meth : Method} {c : Code} {T0 : State} {locs : List Loc} {Z : State} {a0 : Array Value} {h0 : Heap} {n0 : Nat} (p1 : Int32) (p2 : Int32) (p3 : Int32) (p4 : Int32) (p5 : Int32) (p6 : Int32) (z : Int32) (ci : Int32) (r0 : Addr) (r1 : Addr) (r2 : Addr) (k0 : ClassId) (k1 : ClassId) (k2 : ClassId) (l0 : List Value) (l1 : List Value) (l2 : List Value) (o : Addr) (gA : Addr) (kA : ClassId) (gl : List Value) (x : Addr) (kx : ClassId) (y0 : Int32) (y1 : Int32) (y2 : Int32)
    (X0 : Stand p l e room_1 s m args below meth c T0 locs (20) (100)) (hx : p.tables.exec = Jvm.exec) (hZ : Z.Warmed39 s.vm) (hw : ∀ d ∈ tables_1, d.before a0 Z = true) (hby : c.code = code) (hlk : meth.locks = false) (hret : meth.sig.returnType = some .boolean) (hml : c.maxLocals = 16) (hown : s.vm.findClass "com/example/clio/clio/repository/ColumnsColumnPinLaw" = some m.cls) (e0 : T0.heap = h0) (N0 : Fr n0 locs) (Z0 : n0 ≤ h0.size) (F_columns : Fld Z h0 o "com/example/clio/clio/repository/Columns" "columns" "[[I" (.ref gA)) (F_size : Fld Z h0 o "com/example/clio/clio/repository/Columns" "size" "I" (.int (1 : Int32))) (E_o : Exa Z h0 o "com/example/clio/clio/repository/Columns") (V_gA : Arv Z h0 gA kA (.array .int) z gl .null) (hin : ¬ ci < 0 ∧ ci < z) (hcin3 : ¬ ci < 0 ∧ ci < 3) (hel : gl.getD ci.toNatClampNeg .null = .ref x) (V_x : Arv Z h0 x kx .int (1 : Int32) [(.int y0)] (.int (0 : Int32))) (E_x : Exa Z h0 x "[I") (V_r0 : Arv Z h0 r0 k0 .int (3 : Int32) l0 (.int (0 : Int32))) (V_r1 : Arv Z h0 r1 k1 .int (3 : Int32) l1 (.int (0 : Int32))) (V_r2 : Arv Z h0 r2 k2 .int (3 : Int32) l2 (.int (0 : Int32))) (hy0 : l0.getD ci.toNatClampNeg (.int (0 : Int32)) = .int y0) (hy1 : l1.getD ci.toNatClampNeg (.int (0 : Int32)) = .int y1) (hy2 : l2.getD ci.toNatClampNeg (.int (0 : Int32)) = .int y2) :
    Goes p e below (fun o U' => ∃ v L, o = .returned v ∧ Q0 n0 v U'.heap L ∧ FrameEnd s o U' L room_1.cells room_1.slots) (T0.setTop (mkF m 136 #[iv p1, iv p2, iv p3, iv p4, iv p5, iv p6, iv z, iv (1 : Int32), iv ci, rv r0, rv r1, rv r2, rv o, .unset, .unset, .unset] [])) := by
  show Goes p e below _ (sF T0 m 136 #[iv p1, iv p2, iv p3, iv p4, iv p5, iv p6, iv z, iv (1 : Int32), iv ci, rv r0, rv r1, rv r2, rv o, .unset, .unset, .unset] [])
  refine Goes.step ?_ (fun _ k => XS.aload X0.here hx rfl (hb hby at_136) rfl rfl k)
  show Goes p e below _ (sF T0 m 138 #[iv p1, iv p2, iv p3, iv p4, iv p5, iv p6, iv z, iv (1 : Int32), iv ci, rv r0, rv r1, rv r2, rv o, .unset, .unset, .unset] [(.ref o)])
  refine Goes.step ?_ (fun _ k => XS.iload X0.here hx rfl (hb hby at_138) rfl  k)
  show Goes p e below _ (sF T0 m 140 #[iv p1, iv p2, iv p3, iv p4, iv p5, iv p6, iv z, iv (1 : Int32), iv ci, rv r0, rv r1, rv r2, rv o, .unset, .unset, .unset] [(.int ci), (.ref o)])
  obtain ⟨cq1, kq1, q1a, q1b, q1c⟩ := isOf hZ e0 E_o
  obtain ⟨_, _, ⟨T1, L1, k1, n1⟩, -, X1, ⟨Lc1, hQ1, l1, y1, z1⟩, st1⟩ := X0.virtualBack hx (y := (⟨"com/example/clio/clio/repository/Columns", "column", "(I)[I"⟩ : MethodName)) (z := (⟨"com/example/clio/clio/repository/Columns", "column", "(I)[I"⟩ : MethodName)) hown (mvT hZ (hw _ (List.mem_of_getElem? (i := 14) rfl))) (mvT hZ (hw _ (List.mem_of_getElem? (i := 15) rfl))) (notFace_of_selects (args := #[]) (mvT hZ (hw _ (List.mem_of_getElem? (i := 17) rfl)))) (mvT hZ (hw _ (List.mem_of_getElem? (i := 17) rfl))) (mvT hZ (hw _ (List.mem_of_getElem? (i := 16) rfl))) (by decide) (backOf (W := 0) (rmCol1 l Z a0 hw [] o ci gA kA z gl x kx y0 h0 n0 Z0 F_columns F_size V_gA hin hel V_x E_x) hZ (hw _ (List.mem_of_getElem? (i := 18) rfl)) (hw _ (List.mem_of_getElem? (i := 3) rfl)) (by decide) (by decide)) q1a q1c (g := (mkF m 140 #[iv p1, iv p2, iv p3, iv p4, iv p5, iv p6, iv z, iv (1 : Int32), iv ci, rv r0, rv r1, rv r2, rv o, .unset, .unset, .unset] [(.int ci), (.ref o)])) rfl (by rw [hml]; rfl) (Steps.refl _) (argsL := [(.int ci)]) (rest := []) (lenOf pd__28I_29_5bI rfl) rfl (by show 2 * 0 + _ ≤ _; exact Nat.le_of_eq rfl) (hb hby at_140) (fun _ _ => ⟨rfl, e0, (by decide : 20 + 1 ≤ _), (by decide : 100 + 4 ≤ _)⟩)
  dsimp only [Pt.U, Pt.locs, Pt.cells, Pt.slots] at X1 l1 y1 z1 st1 hQ1
  subst l1 y1 z1
  obtain ⟨g1r, kr1, rfl, N1q, E1, gr1, Vr1, A1⟩ := hQ1
  have N1 := Fr.app N0 N1q
  refine Goes.step ?_ (fun _ k => st1.trans k)
  have g_g1r : n0 ≤ g1r := Nat.le_trans Z0 gr1
  have ne_o_g1r : o ≠ g1r := Nat.ne_of_lt (Nat.lt_of_lt_of_le F_columns.lt gr1)
  have ne_gA_g1r : gA ≠ g1r := Nat.ne_of_lt (Nat.lt_of_lt_of_le V_gA.lt gr1)
  have ne_x_g1r : x ≠ g1r := Nat.ne_of_lt (Nat.lt_of_lt_of_le V_x.lt gr1)
  have ne_r0_g1r : r0 ≠ g1r := Nat.ne_of_lt (Nat.lt_of_lt_of_le V_r0.lt gr1)
  have ne_r1_g1r : r1 ≠ g1r := Nat.ne_of_lt (Nat.lt_of_lt_of_le V_r1.lt gr1)
  have ne_r2_g1r : r2 ≠ g1r := Nat.ne_of_lt (Nat.lt_of_lt_of_le V_r2.lt gr1)
  have Zs1 : n0 ≤ T1.heap.size := Nat.le_trans Z0 E1.1
  show Goes p e below _ (sF T1 m 143 #[iv p1, iv p2, iv p3, iv p4, iv p5, iv p6, iv z, iv (1 : Int32), iv ci, rv r0, rv r1, rv r2, rv o, .unset, .unset, .unset] [(.ref g1r)])
  refine Goes.step ?_ (fun _ k => XS.astore X1.here hx rfl (hb hby at_143) rfl rfl (l' := #[iv p1, iv p2, iv p3, iv p4, iv p5, iv p6, iv z, iv (1 : Int32), iv ci, rv r0, rv r1, rv r2, rv o, rv g1r, .unset, .unset]) rfl k)
  show Goes p e below _ (sF T1 m 145 #[iv p1, iv p2, iv p3, iv p4, iv p5, iv p6, iv z, iv (1 : Int32), iv ci, rv r0, rv r1, rv r2, rv o, rv g1r, .unset, .unset] [])
  refine Goes.step ?_ (fun _ k => XS.aload X1.here hx rfl (hb hby at_145) rfl rfl k)
  show Goes p e below _ (sF T1 m 147 #[iv p1, iv p2, iv p3, iv p4, iv p5, iv p6, iv z, iv (1 : Int32), iv ci, rv r0, rv r1, rv r2, rv o, rv g1r, .unset, .unset] [(.ref g1r)])
  obtain ⟨cl2, Ar2, q2, S2, N_2, H2, G2⟩ := id Vr1
  refine Goes.step ?_ (fun _ k => X1.arraylength hx Ar2.1 (State.isArrayOf_alike hZ.alike Ar2.2.1) (g := (mkF m 147 #[iv p1, iv p2, iv p3, iv p4, iv p5, iv p6, iv z, iv (1 : Int32), iv ci, rv r0, rv r1, rv r2, rv o, rv g1r, .unset, .unset] [(.ref g1r)])) rfl rfl (hb hby at_147) _ k)
  rw [len_of S2 N_2]
  show Goes p e below _ (sF T1 m 148 #[iv p1, iv p2, iv p3, iv p4, iv p5, iv p6, iv z, iv (1 : Int32), iv ci, rv r0, rv r1, rv r2, rv o, rv g1r, .unset, .unset] [(.int (1 : Int32))])
  refine Goes.step ?_ (fun _ k => XS.iload X1.here hx rfl (hb hby at_148) rfl  k)
  show Goes p e below _ (sF T1 m 150 #[iv p1, iv p2, iv p3, iv p4, iv p5, iv p6, iv z, iv (1 : Int32), iv ci, rv r0, rv r1, rv r2, rv o, rv g1r, .unset, .unset] [(.int (1 : Int32)), (.int (1 : Int32))])
  refine Goes.step ?_ (fun _ k => XS.icmpYes X1.here hx rfl (pc0 := 150) (pc' := 155) rfl (hb hby at_150) rfl (teq (by decide : (1 : Int32) = (1 : Int32))).1 (by decide) (by decide) k)
  show Goes p e below _ (sF T1 m 155 #[iv p1, iv p2, iv p3, iv p4, iv p5, iv p6, iv z, iv (1 : Int32), iv ci, rv r0, rv r1, rv r2, rv o, rv g1r, .unset, .unset] [])
  refine Goes.step ?_ (fun _ k => XS.iload X1.here hx rfl (hb hby at_155) rfl  k)
  show Goes p e below _ (sF T1 m 157 #[iv p1, iv p2, iv p3, iv p4, iv p5, iv p6, iv z, iv (1 : Int32), iv ci, rv r0, rv r1, rv r2, rv o, rv g1r, .unset, .unset] [(.int (1 : Int32))])
  refine Goes.step ?_ (fun _ k => XS.ifNo X1.here hx rfl (hb hby at_157) rfl ((if0 _ _).trans (tlt (by decide : (0 : Int32) < (1 : Int32))).2.2.2) k)
  show Goes p e below _ (sF T1 m 160 #[iv p1, iv p2, iv p3, iv p4, iv p5, iv p6, iv z, iv (1 : Int32), iv ci, rv r0, rv r1, rv r2, rv o, rv g1r, .unset, .unset] [])
  refine Goes.step ?_ (fun _ k => XS.aload X1.here hx rfl (hb hby at_160) rfl rfl k)
  show Goes p e below _ (sF T1 m 162 #[iv p1, iv p2, iv p3, iv p4, iv p5, iv p6, iv z, iv (1 : Int32), iv ci, rv r0, rv r1, rv r2, rv o, rv g1r, .unset, .unset] [(.ref g1r)])
  refine Goes.step ?_ (fun _ k => XS.iconst X1.here hx rfl (hb hby at_162) k)
  show Goes p e below _ (sF T1 m 163 #[iv p1, iv p2, iv p3, iv p4, iv p5, iv p6, iv z, iv (1 : Int32), iv ci, rv r0, rv r1, rv r2, rv o, rv g1r, .unset, .unset] [(.int (0 : Int32)), (.ref g1r)])
  obtain ⟨cl3, Ar3, q3, S3, N_3, H3, G3⟩ := id Vr1
  have hin4 : ¬ ((0 : Int32) < 0 ∨ cl3.slots.size ≤ ((0 : Int32)).toNatClampNeg) := inb_of S3 ⟨by decide, by decide⟩
  have hat4 : cl3.slots[((0 : Int32)).toNatClampNeg]? = some (.int y0) := H3.at hin4 rfl
  refine Goes.step ?_ (fun _ k => X1.iaload hx (j := (0 : Int32)) (v := (.int y0)) Ar3.1 (State.isArrayOf_alike hZ.alike Ar3.2.1) Ar3.2.2 hin4 hat4 (g := (mkF m 163 #[iv p1, iv p2, iv p3, iv p4, iv p5, iv p6, iv z, iv (1 : Int32), iv ci, rv r0, rv r1, rv r2, rv o, rv g1r, .unset, .unset] [(.int (0 : Int32)), (.ref g1r)])) rfl rfl (hb hby at_163) _ k)
  show Goes p e below _ (sF T1 m 164 #[iv p1, iv p2, iv p3, iv p4, iv p5, iv p6, iv z, iv (1 : Int32), iv ci, rv r0, rv r1, rv r2, rv o, rv g1r, .unset, .unset] [(.int y0)])
  refine Goes.step ?_ (fun _ k => XS.aload X1.here hx rfl (hb hby at_164) rfl rfl k)
  show Goes p e below _ (sF T1 m 166 #[iv p1, iv p2, iv p3, iv p4, iv p5, iv p6, iv z, iv (1 : Int32), iv ci, rv r0, rv r1, rv r2, rv o, rv g1r, .unset, .unset] [(.ref r0), (.int y0)])
  refine Goes.step ?_ (fun _ k => XS.iload X1.here hx rfl (hb hby at_166) rfl  k)
  show Goes p e below _ (sF T1 m 168 #[iv p1, iv p2, iv p3, iv p4, iv p5, iv p6, iv z, iv (1 : Int32), iv ci, rv r0, rv r1, rv r2, rv o, rv g1r, .unset, .unset] [(.int ci), (.ref r0), (.int y0)])
  have V_r0_5 := (V_r0.ext E1)
  obtain ⟨cl6, Ar6, q6, S6, N_6, H6, G6⟩ := id V_r0_5
  have hin7 : ¬ (ci < 0 ∨ cl6.slots.size ≤ (ci).toNatClampNeg) := inb_of S6 hcin3
  have hat7 : cl6.slots[(ci).toNatClampNeg]? = some (.int y0) := H6.at hin7 hy0
  refine Goes.step ?_ (fun _ k => X1.iaload hx (j := ci) (v := (.int y0)) Ar6.1 (State.isArrayOf_alike hZ.alike Ar6.2.1) Ar6.2.2 hin7 hat7 (g := (mkF m 168 #[iv p1, iv p2, iv p3, iv p4, iv p5, iv p6, iv z, iv (1 : Int32), iv ci, rv r0, rv r1, rv r2, rv o, rv g1r, .unset, .unset] [(.int ci), (.ref r0), (.int y0)])) rfl rfl (hb hby at_168) _ k)
  show Goes p e below _ (sF T1 m 169 #[iv p1, iv p2, iv p3, iv p4, iv p5, iv p6, iv z, iv (1 : Int32), iv ci, rv r0, rv r1, rv r2, rv o, rv g1r, .unset, .unset] [(.int y0), (.int y0)])
  refine Goes.step ?_ (fun _ k => XS.icmpYes X1.here hx rfl (pc0 := 169) (pc' := 174) rfl (hb hby at_169) rfl (teq (rfl : y0 = y0)).1 (by decide) (by decide) k)
  show Goes p e below _ (sF T1 m 174 #[iv p1, iv p2, iv p3, iv p4, iv p5, iv p6, iv z, iv (1 : Int32), iv ci, rv r0, rv r1, rv r2, rv o, rv g1r, .unset, .unset] [])
  refine Goes.step ?_ (fun _ k => XS.iload X1.here hx rfl (hb hby at_174) rfl  k)
  show Goes p e below _ (sF T1 m 176 #[iv p1, iv p2, iv p3, iv p4, iv p5, iv p6, iv z, iv (1 : Int32), iv ci, rv r0, rv r1, rv r2, rv o, rv g1r, .unset, .unset] [(.int (1 : Int32))])
  refine Goes.step ?_ (fun _ k => XS.iconst X1.here hx rfl (hb hby at_176) k)
  show Goes p e below _ (sF T1 m 177 #[iv p1, iv p2, iv p3, iv p4, iv p5, iv p6, iv z, iv (1 : Int32), iv ci, rv r0, rv r1, rv r2, rv o, rv g1r, .unset, .unset] [(.int (1 : Int32)), (.int (1 : Int32))])
  refine Goes.step ?_ (fun _ k => XS.icmpYes X1.here hx rfl (pc0 := 177) (pc' := 194) rfl (hb hby at_177) rfl (flt (by decide : ¬ ((1 : Int32) < (1 : Int32)))).2.2.2 (by decide) (by decide) k)
  show Goes p e below _ (sF T1 m 194 #[iv p1, iv p2, iv p3, iv p4, iv p5, iv p6, iv z, iv (1 : Int32), iv ci, rv r0, rv r1, rv r2, rv o, rv g1r, .unset, .unset] [])
  refine Goes.step ?_ (fun _ k => XS.iload X1.here hx rfl (hb hby at_194) rfl  k)
  show Goes p e below _ (sF T1 m 196 #[iv p1, iv p2, iv p3, iv p4, iv p5, iv p6, iv z, iv (1 : Int32), iv ci, rv r0, rv r1, rv r2, rv o, rv g1r, .unset, .unset] [(.int (1 : Int32))])
  refine Goes.step ?_ (fun _ k => XS.iconst X1.here hx rfl (hb hby at_196) k)
  show Goes p e below _ (sF T1 m 197 #[iv p1, iv p2, iv p3, iv p4, iv p5, iv p6, iv z, iv (1 : Int32), iv ci, rv r0, rv r1, rv r2, rv o, rv g1r, .unset, .unset] [(.int (2 : Int32)), (.int (1 : Int32))])
  refine Goes.step ?_ (fun _ k => XS.icmpYes X1.here hx rfl (pc0 := 197) (pc' := 214) rfl (hb hby at_197) rfl (flt (by decide : ¬ ((2 : Int32) < (1 : Int32)))).2.2.2 (by decide) (by decide) k)
  show Goes p e below _ (sF T1 m 214 #[iv p1, iv p2, iv p3, iv p4, iv p5, iv p6, iv z, iv (1 : Int32), iv ci, rv r0, rv r1, rv r2, rv o, rv g1r, .unset, .unset] [])
  refine Goes.step ?_ (fun _ k => XS.iload X1.here hx rfl (hb hby at_214) rfl  k)
  show Goes p e below _ (sF T1 m 216 #[iv p1, iv p2, iv p3, iv p4, iv p5, iv p6, iv z, iv (1 : Int32), iv ci, rv r0, rv r1, rv r2, rv o, rv g1r, .unset, .unset] [(.int (1 : Int32))])
  refine Goes.step ?_ (fun _ k => XS.ifNo X1.here hx rfl (hb hby at_216) rfl ((if0 _ _).trans (tlt (by decide : (0 : Int32) < (1 : Int32))).2.2.2) k)
  show Goes p e below _ (sF T1 m 219 #[iv p1, iv p2, iv p3, iv p4, iv p5, iv p6, iv z, iv (1 : Int32), iv ci, rv r0, rv r1, rv r2, rv o, rv g1r, .unset, .unset] [])
  refine Goes.step ?_ (fun _ k => XS.aload X1.here hx rfl (hb hby at_219) rfl rfl k)
  show Goes p e below _ (sF T1 m 221 #[iv p1, iv p2, iv p3, iv p4, iv p5, iv p6, iv z, iv (1 : Int32), iv ci, rv r0, rv r1, rv r2, rv o, rv g1r, .unset, .unset] [(.ref g1r)])
  refine Goes.step ?_ (fun _ k => XS.iload X1.here hx rfl (hb hby at_221) rfl  k)
  show Goes p e below _ (sF T1 m 223 #[iv p1, iv p2, iv p3, iv p4, iv p5, iv p6, iv z, iv (1 : Int32), iv ci, rv r0, rv r1, rv r2, rv o, rv g1r, .unset, .unset] [(.int (1 : Int32)), (.ref g1r)])
  refine Goes.step ?_ (fun _ k => XS.iconst X1.here hx rfl (hb hby at_223) k)
  show Goes p e below _ (sF T1 m 224 #[iv p1, iv p2, iv p3, iv p4, iv p5, iv p6, iv z, iv (1 : Int32), iv ci, rv r0, rv r1, rv r2, rv o, rv g1r, .unset, .unset] [(.int (1 : Int32)), (.int (1 : Int32)), (.ref g1r)])
  refine Goes.step ?_ (fun _ k => XS.isub X1.here hx rfl (hb hby at_224) rfl k)
  show Goes p e below _ (sF T1 m 225 #[iv p1, iv p2, iv p3, iv p4, iv p5, iv p6, iv z, iv (1 : Int32), iv ci, rv r0, rv r1, rv r2, rv o, rv g1r, .unset, .unset] [(.int ((1 : Int32) - (1 : Int32))), (.ref g1r)])
  rw [show ((1 : Int32) - (1 : Int32)) = (0 : Int32) from by decide]
  show Goes p e below _ (sF T1 m 225 #[iv p1, iv p2, iv p3, iv p4, iv p5, iv p6, iv z, iv (1 : Int32), iv ci, rv r0, rv r1, rv r2, rv o, rv g1r, .unset, .unset] [(.int (0 : Int32)), (.ref g1r)])
  obtain ⟨cl8, Ar8, q8, S8, N_8, H8, G8⟩ := id Vr1
  have hin9 : ¬ ((0 : Int32) < 0 ∨ cl8.slots.size ≤ ((0 : Int32)).toNatClampNeg) := inb_of S8 ⟨by decide, by decide⟩
  have hat9 : cl8.slots[((0 : Int32)).toNatClampNeg]? = some (.int y0) := H8.at hin9 rfl
  refine Goes.step ?_ (fun _ k => X1.iaload hx (j := (0 : Int32)) (v := (.int y0)) Ar8.1 (State.isArrayOf_alike hZ.alike Ar8.2.1) Ar8.2.2 hin9 hat9 (g := (mkF m 225 #[iv p1, iv p2, iv p3, iv p4, iv p5, iv p6, iv z, iv (1 : Int32), iv ci, rv r0, rv r1, rv r2, rv o, rv g1r, .unset, .unset] [(.int (0 : Int32)), (.ref g1r)])) rfl rfl (hb hby at_225) _ k)
  show Goes p e below _ (sF T1 m 226 #[iv p1, iv p2, iv p3, iv p4, iv p5, iv p6, iv z, iv (1 : Int32), iv ci, rv r0, rv r1, rv r2, rv o, rv g1r, .unset, .unset] [(.int y0)])
  refine Goes.step ?_ (fun _ k => XS.istore X1.here hx rfl (hb hby at_226) rfl (l' := #[iv p1, iv p2, iv p3, iv p4, iv p5, iv p6, iv z, iv (1 : Int32), iv ci, rv r0, rv r1, rv r2, rv o, rv g1r, iv y0, .unset]) rfl k)
  show Goes p e below _ (sF T1 m 228 #[iv p1, iv p2, iv p3, iv p4, iv p5, iv p6, iv z, iv (1 : Int32), iv ci, rv r0, rv r1, rv r2, rv o, rv g1r, iv y0, .unset] [])
  refine Goes.step ?_ (fun _ k => XS.aload X1.here hx rfl (hb hby at_228) rfl rfl k)
  show Goes p e below _ (sF T1 m 230 #[iv p1, iv p2, iv p3, iv p4, iv p5, iv p6, iv z, iv (1 : Int32), iv ci, rv r0, rv r1, rv r2, rv o, rv g1r, iv y0, .unset] [(.ref g1r)])
  refine Goes.step ?_ (fun _ k => XS.iload X1.here hx rfl (hb hby at_230) rfl  k)
  show Goes p e below _ (sF T1 m 232 #[iv p1, iv p2, iv p3, iv p4, iv p5, iv p6, iv z, iv (1 : Int32), iv ci, rv r0, rv r1, rv r2, rv o, rv g1r, iv y0, .unset] [(.int (1 : Int32)), (.ref g1r)])
  refine Goes.step ?_ (fun _ k => XS.iconst X1.here hx rfl (hb hby at_232) k)
  show Goes p e below _ (sF T1 m 233 #[iv p1, iv p2, iv p3, iv p4, iv p5, iv p6, iv z, iv (1 : Int32), iv ci, rv r0, rv r1, rv r2, rv o, rv g1r, iv y0, .unset] [(.int (1 : Int32)), (.int (1 : Int32)), (.ref g1r)])
  refine Goes.step ?_ (fun _ k => XS.isub X1.here hx rfl (hb hby at_233) rfl k)
  show Goes p e below _ (sF T1 m 234 #[iv p1, iv p2, iv p3, iv p4, iv p5, iv p6, iv z, iv (1 : Int32), iv ci, rv r0, rv r1, rv r2, rv o, rv g1r, iv y0, .unset] [(.int ((1 : Int32) - (1 : Int32))), (.ref g1r)])
  rw [show ((1 : Int32) - (1 : Int32)) = (0 : Int32) from by decide]
  show Goes p e below _ (sF T1 m 234 #[iv p1, iv p2, iv p3, iv p4, iv p5, iv p6, iv z, iv (1 : Int32), iv ci, rv r0, rv r1, rv r2, rv o, rv g1r, iv y0, .unset] [(.int (0 : Int32)), (.ref g1r)])
  refine Goes.step ?_ (fun _ k => XS.iload X1.here hx rfl (hb hby at_234) rfl  k)
  show Goes p e below _ (sF T1 m 236 #[iv p1, iv p2, iv p3, iv p4, iv p5, iv p6, iv z, iv (1 : Int32), iv ci, rv r0, rv r1, rv r2, rv o, rv g1r, iv y0, .unset] [(.int y0), (.int (0 : Int32)), (.ref g1r)])
  refine Goes.step ?_ (fun _ k => XS.iconst X1.here hx rfl (hb hby at_236) k)
  show Goes p e below _ (sF T1 m 237 #[iv p1, iv p2, iv p3, iv p4, iv p5, iv p6, iv z, iv (1 : Int32), iv ci, rv r0, rv r1, rv r2, rv o, rv g1r, iv y0, .unset] [(.int (-1 : Int32)), (.int y0), (.int (0 : Int32)), (.ref g1r)])
  refine Goes.step ?_ (fun _ k => XS.ixor X1.here hx rfl (hb hby at_237) rfl k)
  show Goes p e below _ (sF T1 m 238 #[iv p1, iv p2, iv p3, iv p4, iv p5, iv p6, iv z, iv (1 : Int32), iv ci, rv r0, rv r1, rv r2, rv o, rv g1r, iv y0, .unset] [(.int (y0 ^^^ (-1 : Int32))), (.int (0 : Int32)), (.ref g1r)])
  obtain ⟨cl10, Ar10, q10, S10, N_10, H10, G10⟩ := id Vr1
  have hin11 : ¬ ((0 : Int32) < 0 ∨ cl10.slots.size ≤ ((0 : Int32)).toNatClampNeg) := inb_of S10 ⟨by decide, by decide⟩
  obtain ⟨T11, h11, X11, e11, W11, st11⟩ := stI X1 hx hZ rfl Ar10 (j := (0 : Int32)) hin11 (g := (mkF m 238 #[iv p1, iv p2, iv p3, iv p4, iv p5, iv p6, iv z, iv (1 : Int32), iv ci, rv r0, rv r1, rv r2, rv o, rv g1r, iv y0, .unset] [(.int (y0 ^^^ (-1 : Int32))), (.int (0 : Int32)), (.ref g1r)])) rfl rfl (hb hby at_238)
  have V_11 : Arv Z h11 g1r kr1 .int (1 : Int32) [(.int (y0 ^^^ (-1 : Int32)))] (.int (0 : Int32)) := Arv.set Ar10 q10 S10 N_10 H10 G10 rfl W11 0 rfl (Nat.le_of_ble_eq_true rfl)
  have Zs11 : n0 ≤ h11.size := Nat.le_trans Zs1 (Keep.of_wr W11).1
  have N11 := Fr.snoc X11 N1 g_g1r
  refine Goes.step ?_ st11
  show Goes p e below _ (sF T11 m 239 #[iv p1, iv p2, iv p3, iv p4, iv p5, iv p6, iv z, iv (1 : Int32), iv ci, rv r0, rv r1, rv r2, rv o, rv g1r, iv y0, .unset] [])
  refine Goes.step ?_ (fun _ k => XS.aload X11.here hx rfl (hb hby at_239) rfl rfl k)
  show Goes p e below _ (sF T11 m 241 #[iv p1, iv p2, iv p3, iv p4, iv p5, iv p6, iv z, iv (1 : Int32), iv ci, rv r0, rv r1, rv r2, rv o, rv g1r, iv y0, .unset] [(.ref o)])
  refine Goes.step ?_ (fun _ k => XS.iload X11.here hx rfl (hb hby at_241) rfl  k)
  show Goes p e below _ (sF T11 m 243 #[iv p1, iv p2, iv p3, iv p4, iv p5, iv p6, iv z, iv (1 : Int32), iv ci, rv r0, rv r1, rv r2, rv o, rv g1r, iv y0, .unset] [(.int ci), (.ref o)])
  have F_o_columns_12 := ((F_columns.ext E1).other W11 (Or.inl ne_o_g1r))
  have F_o_size_13 := ((F_size.ext E1).other W11 (Or.inl ne_o_g1r))
  have V_gA_14 := ((V_gA.ext E1).other W11 ne_gA_g1r)
  have V_x_15 := ((V_x.ext E1).other W11 ne_x_g1r)
  have E_x_16 := ((E_x.ext E1).wr W11)
  have E_o_18 := ((E_o.ext E1).wr W11)
  obtain ⟨cq17, kq17, q17a, q17b, q17c⟩ := isOf hZ e11 E_o_18
  obtain ⟨_, _, ⟨T17, L17, k17, n17⟩, -, X17, ⟨Lc17, hQ17, l17, y17, z17⟩, st17⟩ := X11.virtualBack hx (y := (⟨"com/example/clio/clio/repository/Columns", "column", "(I)[I"⟩ : MethodName)) (z := (⟨"com/example/clio/clio/repository/Columns", "column", "(I)[I"⟩ : MethodName)) hown (mvT hZ (hw _ (List.mem_of_getElem? (i := 14) rfl))) (mvT hZ (hw _ (List.mem_of_getElem? (i := 15) rfl))) (notFace_of_selects (args := #[]) (mvT hZ (hw _ (List.mem_of_getElem? (i := 17) rfl)))) (mvT hZ (hw _ (List.mem_of_getElem? (i := 17) rfl))) (mvT hZ (hw _ (List.mem_of_getElem? (i := 16) rfl))) (by decide) (backOf (W := 0) (rmCol1 l Z a0 hw [] o ci gA kA z gl x kx y0 h11 n0 Zs11 F_o_columns_12 F_o_size_13 V_gA_14 hin hel V_x_15 E_x_16) hZ (hw _ (List.mem_of_getElem? (i := 18) rfl)) (hw _ (List.mem_of_getElem? (i := 3) rfl)) (by decide) (by decide)) q17a q17c (g := (mkF m 243 #[iv p1, iv p2, iv p3, iv p4, iv p5, iv p6, iv z, iv (1 : Int32), iv ci, rv r0, rv r1, rv r2, rv o, rv g1r, iv y0, .unset] [(.int ci), (.ref o)])) rfl (by rw [hml]; rfl) (Steps.refl _) (argsL := [(.int ci)]) (rest := []) (lenOf pd__28I_29_5bI rfl) rfl (by show 2 * 0 + _ ≤ _; exact Nat.le_of_eq rfl) (hb hby at_243) (fun _ _ => ⟨rfl, e11, (by decide : 20 + 1 + 1 ≤ _), (by decide : 100 + 4 + 4 ≤ _)⟩)
  dsimp only [Pt.U, Pt.locs, Pt.cells, Pt.slots] at X17 l17 y17 z17 st17 hQ17
  subst l17 y17 z17
  obtain ⟨g17r, kr17, rfl, N17q, E17, gr17, Vr17, A17⟩ := hQ17
  have N17 := Fr.app N11 N17q
  refine Goes.step ?_ (fun _ k => st17.trans k)
  have g_g17r : n0 ≤ g17r := Nat.le_trans Zs11 gr17
  have ne_o_g17r : o ≠ g17r := Nat.ne_of_lt (Nat.lt_of_lt_of_le F_o_columns_12.lt gr17)
  have ne_gA_g17r : gA ≠ g17r := Nat.ne_of_lt (Nat.lt_of_lt_of_le V_gA_14.lt gr17)
  have ne_x_g17r : x ≠ g17r := Nat.ne_of_lt (Nat.lt_of_lt_of_le V_x_15.lt gr17)
  have V_r0_19 := (V_r0_5.other W11 ne_r0_g1r)
  have ne_r0_g17r : r0 ≠ g17r := Nat.ne_of_lt (Nat.lt_of_lt_of_le V_r0_19.lt gr17)
  have V_r1_20 := ((V_r1.ext E1).other W11 ne_r1_g1r)
  have ne_r1_g17r : r1 ≠ g17r := Nat.ne_of_lt (Nat.lt_of_lt_of_le V_r1_20.lt gr17)
  have V_r2_21 := ((V_r2.ext E1).other W11 ne_r2_g1r)
  have ne_r2_g17r : r2 ≠ g17r := Nat.ne_of_lt (Nat.lt_of_lt_of_le V_r2_21.lt gr17)
  have ne_g1r_g17r : g1r ≠ g17r := Nat.ne_of_lt (Nat.lt_of_lt_of_le V_11.lt gr17)
  have Zs17 : n0 ≤ T17.heap.size := Nat.le_trans Zs11 E17.1
  show Goes p e below _ (sF T17 m 246 #[iv p1, iv p2, iv p3, iv p4, iv p5, iv p6, iv z, iv (1 : Int32), iv ci, rv r0, rv r1, rv r2, rv o, rv g1r, iv y0, .unset] [(.ref g17r)])
  refine Goes.step ?_ (fun _ k => XS.astore X17.here hx rfl (hb hby at_246) rfl rfl (l' := #[iv p1, iv p2, iv p3, iv p4, iv p5, iv p6, iv z, iv (1 : Int32), iv ci, rv r0, rv r1, rv r2, rv o, rv g1r, iv y0, rv g17r]) rfl k)
  show Goes p e below _ (sF T17 m 248 #[iv p1, iv p2, iv p3, iv p4, iv p5, iv p6, iv z, iv (1 : Int32), iv ci, rv r0, rv r1, rv r2, rv o, rv g1r, iv y0, rv g17r] [])
  refine Goes.step ?_ (fun _ k => XS.aload X17.here hx rfl (hb hby at_248) rfl rfl k)
  show Goes p e below _ (sF T17 m 250 #[iv p1, iv p2, iv p3, iv p4, iv p5, iv p6, iv z, iv (1 : Int32), iv ci, rv r0, rv r1, rv r2, rv o, rv g1r, iv y0, rv g17r] [(.ref g17r)])
  obtain ⟨cl22, Ar22, q22, S22, N_22, H22, G22⟩ := id Vr17
  refine Goes.step ?_ (fun _ k => X17.arraylength hx Ar22.1 (State.isArrayOf_alike hZ.alike Ar22.2.1) (g := (mkF m 250 #[iv p1, iv p2, iv p3, iv p4, iv p5, iv p6, iv z, iv (1 : Int32), iv ci, rv r0, rv r1, rv r2, rv o, rv g1r, iv y0, rv g17r] [(.ref g17r)])) rfl rfl (hb hby at_250) _ k)
  rw [len_of S22 N_22]
  show Goes p e below _ (sF T17 m 251 #[iv p1, iv p2, iv p3, iv p4, iv p5, iv p6, iv z, iv (1 : Int32), iv ci, rv r0, rv r1, rv r2, rv o, rv g1r, iv y0, rv g17r] [(.int (1 : Int32))])
  refine Goes.step ?_ (fun _ k => XS.iload X17.here hx rfl (hb hby at_251) rfl  k)
  show Goes p e below _ (sF T17 m 253 #[iv p1, iv p2, iv p3, iv p4, iv p5, iv p6, iv z, iv (1 : Int32), iv ci, rv r0, rv r1, rv r2, rv o, rv g1r, iv y0, rv g17r] [(.int (1 : Int32)), (.int (1 : Int32))])
  refine Goes.step ?_ (fun _ k => XS.icmpNo X17.here hx rfl (hb hby at_253) rfl (teq (by decide : (1 : Int32) = (1 : Int32))).2 k)
  show Goes p e below _ (sF T17 m 256 #[iv p1, iv p2, iv p3, iv p4, iv p5, iv p6, iv z, iv (1 : Int32), iv ci, rv r0, rv r1, rv r2, rv o, rv g1r, iv y0, rv g17r] [])
  refine Goes.step ?_ (fun _ k => XS.aload X17.here hx rfl (hb hby at_256) rfl rfl k)
  show Goes p e below _ (sF T17 m 258 #[iv p1, iv p2, iv p3, iv p4, iv p5, iv p6, iv z, iv (1 : Int32), iv ci, rv r0, rv r1, rv r2, rv o, rv g1r, iv y0, rv g17r] [(.ref g17r)])
  refine Goes.step ?_ (fun _ k => XS.iload X17.here hx rfl (hb hby at_258) rfl  k)
  show Goes p e below _ (sF T17 m 260 #[iv p1, iv p2, iv p3, iv p4, iv p5, iv p6, iv z, iv (1 : Int32), iv ci, rv r0, rv r1, rv r2, rv o, rv g1r, iv y0, rv g17r] [(.int (1 : Int32)), (.ref g17r)])
  refine Goes.step ?_ (fun _ k => XS.iconst X17.here hx rfl (hb hby at_260) k)
  show Goes p e below _ (sF T17 m 261 #[iv p1, iv p2, iv p3, iv p4, iv p5, iv p6, iv z, iv (1 : Int32), iv ci, rv r0, rv r1, rv r2, rv o, rv g1r, iv y0, rv g17r] [(.int (1 : Int32)), (.int (1 : Int32)), (.ref g17r)])
  refine Goes.step ?_ (fun _ k => XS.isub X17.here hx rfl (hb hby at_261) rfl k)
  show Goes p e below _ (sF T17 m 262 #[iv p1, iv p2, iv p3, iv p4, iv p5, iv p6, iv z, iv (1 : Int32), iv ci, rv r0, rv r1, rv r2, rv o, rv g1r, iv y0, rv g17r] [(.int ((1 : Int32) - (1 : Int32))), (.ref g17r)])
  rw [show ((1 : Int32) - (1 : Int32)) = (0 : Int32) from by decide]
  show Goes p e below _ (sF T17 m 262 #[iv p1, iv p2, iv p3, iv p4, iv p5, iv p6, iv z, iv (1 : Int32), iv ci, rv r0, rv r1, rv r2, rv o, rv g1r, iv y0, rv g17r] [(.int (0 : Int32)), (.ref g17r)])
  obtain ⟨cl23, Ar23, q23, S23, N_23, H23, G23⟩ := id Vr17
  have hin24 : ¬ ((0 : Int32) < 0 ∨ cl23.slots.size ≤ ((0 : Int32)).toNatClampNeg) := inb_of S23 ⟨by decide, by decide⟩
  have hat24 : cl23.slots[((0 : Int32)).toNatClampNeg]? = some (.int y0) := H23.at hin24 rfl
  refine Goes.step ?_ (fun _ k => X17.iaload hx (j := (0 : Int32)) (v := (.int y0)) Ar23.1 (State.isArrayOf_alike hZ.alike Ar23.2.1) Ar23.2.2 hin24 hat24 (g := (mkF m 262 #[iv p1, iv p2, iv p3, iv p4, iv p5, iv p6, iv z, iv (1 : Int32), iv ci, rv r0, rv r1, rv r2, rv o, rv g1r, iv y0, rv g17r] [(.int (0 : Int32)), (.ref g17r)])) rfl rfl (hb hby at_262) _ k)
  show Goes p e below _ (sF T17 m 263 #[iv p1, iv p2, iv p3, iv p4, iv p5, iv p6, iv z, iv (1 : Int32), iv ci, rv r0, rv r1, rv r2, rv o, rv g1r, iv y0, rv g17r] [(.int y0)])
  refine Goes.step ?_ (fun _ k => XS.iload X17.here hx rfl (hb hby at_263) rfl  k)
  show Goes p e below _ (sF T17 m 265 #[iv p1, iv p2, iv p3, iv p4, iv p5, iv p6, iv z, iv (1 : Int32), iv ci, rv r0, rv r1, rv r2, rv o, rv g1r, iv y0, rv g17r] [(.int y0), (.int y0)])
  refine Goes.step ?_ (fun _ k => XS.icmpYes X17.here hx rfl (pc0 := 265) (pc' := 270) rfl (hb hby at_265) rfl (teq (rfl : y0 = y0)).1 (by decide) (by decide) k)
  show Goes p e below _ (sF T17 m 270 #[iv p1, iv p2, iv p3, iv p4, iv p5, iv p6, iv z, iv (1 : Int32), iv ci, rv r0, rv r1, rv r2, rv o, rv g1r, iv y0, rv g17r] [])
  refine Goes.step ?_ (fun _ k => XS.aload X17.here hx rfl (hb hby at_270) rfl rfl k)
  show Goes p e below _ (sF T17 m 272 #[iv p1, iv p2, iv p3, iv p4, iv p5, iv p6, iv z, iv (1 : Int32), iv ci, rv r0, rv r1, rv r2, rv o, rv g1r, iv y0, rv g17r] [(.ref o)])
  have F_o_size_25 := (F_o_size_13.ext E17)
  have E_o_27 := (E_o_18.ext E17)
  obtain ⟨cq26, kq26, q26a, q26b, q26c⟩ := isOf hZ rfl E_o_27
  obtain ⟨_, _, ⟨T26, L26, k26, n26⟩, -, X26, ⟨Lc26, hQ26, l26, y26, z26⟩, st26⟩ := X17.virtualBack hx (y := (⟨"com/example/clio/clio/repository/Columns", "size", "()I"⟩ : MethodName)) (z := (⟨"com/example/clio/clio/repository/Columns", "size", "()I"⟩ : MethodName)) hown (mvT hZ (hw _ (List.mem_of_getElem? (i := 33) rfl))) (mvT hZ (hw _ (List.mem_of_getElem? (i := 34) rfl))) (notFace_of_selects (args := #[]) (mvT hZ (hw _ (List.mem_of_getElem? (i := 36) rfl)))) (mvT hZ (hw _ (List.mem_of_getElem? (i := 36) rfl))) (mvT hZ (hw _ (List.mem_of_getElem? (i := 35) rfl))) (by decide) (backOf (W := 0) (rmSize l Z a0 hw [] o (1 : Int32) T17.heap n0 Zs17 F_o_size_25) hZ (hw _ (List.mem_of_getElem? (i := 37) rfl)) (hw _ (List.mem_of_getElem? (i := 3) rfl)) (by decide) (by decide)) q26a q26c (g := (mkF m 272 #[iv p1, iv p2, iv p3, iv p4, iv p5, iv p6, iv z, iv (1 : Int32), iv ci, rv r0, rv r1, rv r2, rv o, rv g1r, iv y0, rv g17r] [(.ref o)])) rfl (by rw [hml]; rfl) (Steps.refl _) (argsL := []) (rest := []) (lenOf pd__28_29I rfl) rfl (by show 2 * 0 + _ ≤ _; exact Nat.le_of_eq rfl) (hb hby at_272) (fun _ _ => ⟨rfl, rfl, (by decide : 20 + 1 + 1 + 0 ≤ _), (by decide : 100 + 4 + 4 + 0 ≤ _)⟩)
  dsimp only [Pt.U, Pt.locs, Pt.cells, Pt.slots] at X26 l26 y26 z26 st26 hQ26
  subst l26 y26 z26
  obtain ⟨rfl, N26q, e26⟩ := hQ26
  have N26 := Fr.app N17 N26q
  refine Goes.step ?_ (fun _ k => st26.trans k)
  show Goes p e below _ (sF T26 m 275 #[iv p1, iv p2, iv p3, iv p4, iv p5, iv p6, iv z, iv (1 : Int32), iv ci, rv r0, rv r1, rv r2, rv o, rv g1r, iv y0, rv g17r] [(.int (1 : Int32))])
  refine Goes.step ?_ (fun _ k => XS.iload X26.here hx rfl (hb hby at_275) rfl  k)
  show Goes p e below _ (sF T26 m 277 #[iv p1, iv p2, iv p3, iv p4, iv p5, iv p6, iv z, iv (1 : Int32), iv ci, rv r0, rv r1, rv r2, rv o, rv g1r, iv y0, rv g17r] [(.int (1 : Int32)), (.int (1 : Int32))])
  refine Goes.step ?_ (fun _ k => XS.icmpNo X26.here hx rfl (hb hby at_277) rfl (teq (by decide : (1 : Int32) = (1 : Int32))).2 k)
  show Goes p e below _ (sF T26 m 280 #[iv p1, iv p2, iv p3, iv p4, iv p5, iv p6, iv z, iv (1 : Int32), iv ci, rv r0, rv r1, rv r2, rv o, rv g1r, iv y0, rv g17r] [])
  refine Goes.step ?_ (fun _ k => XS.iconst X26.here hx rfl (hb hby at_280) k)
  show Goes p e below _ (sF T26 m 281 #[iv p1, iv p2, iv p3, iv p4, iv p5, iv p6, iv z, iv (1 : Int32), iv ci, rv r0, rv r1, rv r2, rv o, rv g1r, iv y0, rv g17r] [(.int (1 : Int32))])
  refine Goes.step ?_ (fun _ k => XS.goto X26.here hx rfl (pc0 := 281) (pc' := 285) rfl (hb hby at_281) (by decide) (by decide) k)
  show Goes p e below _ (sF T26 m 285 #[iv p1, iv p2, iv p3, iv p4, iv p5, iv p6, iv z, iv (1 : Int32), iv ci, rv r0, rv r1, rv r2, rv o, rv g1r, iv y0, rv g17r] [(.int (1 : Int32))])
  refine own_out X26 hx hlk hret rfl (Or.inl ⟨rfl, by simp, _, rfl⟩) (hb hby at_285) ?_ (by decide) (by decide)
  show Q0 n0 _ T26.heap _
  rw [e26]
  exact ⟨rfl, N26⟩
set_option maxRecDepth 65536 in
set_option maxHeartbeats 40000000 in
theorem tail136_2 {p : Program} {l : Launch} {e : Env} {s : State} {m : MethodId} {args : Array Value} {below : List Frame} {meth : Method} {c : Code} {T0 : State} {locs : List Loc} {Z : State} {a0 : Array Value} {h0 : Heap} {n0 : Nat} (p1 : Int32) (p2 : Int32) (p3 : Int32) (p4 : Int32) (p5 : Int32) (p6 : Int32) (z : Int32) (ci : Int32) (r0 : Addr) (r1 : Addr) (r2 : Addr) (k0 : ClassId) (k1 : ClassId) (k2 : ClassId) (l0 : List Value) (l1 : List Value) (l2 : List Value) (o : Addr) (gA : Addr) (kA : ClassId) (gl : List Value) (x : Addr) (kx : ClassId) (y0 : Int32) (y1 : Int32) (y2 : Int32)
    (X0 : Stand p l e room_1 s m args below meth c T0 locs (20) (100)) (hx : p.tables.exec = Jvm.exec) (hZ : Z.Warmed39 s.vm) (hw : ∀ d ∈ tables_1, d.before a0 Z = true) (hby : c.code = code) (hlk : meth.locks = false) (hret : meth.sig.returnType = some .boolean) (hml : c.maxLocals = 16) (hown : s.vm.findClass "com/example/clio/clio/repository/ColumnsColumnPinLaw" = some m.cls) (e0 : T0.heap = h0) (N0 : Fr n0 locs) (Z0 : n0 ≤ h0.size) (F_columns : Fld Z h0 o "com/example/clio/clio/repository/Columns" "columns" "[[I" (.ref gA)) (F_size : Fld Z h0 o "com/example/clio/clio/repository/Columns" "size" "I" (.int (2 : Int32))) (E_o : Exa Z h0 o "com/example/clio/clio/repository/Columns") (V_gA : Arv Z h0 gA kA (.array .int) z gl .null) (hin : ¬ ci < 0 ∧ ci < z) (hcin3 : ¬ ci < 0 ∧ ci < 3) (hel : gl.getD ci.toNatClampNeg .null = .ref x) (V_x : Arv Z h0 x kx .int (2 : Int32) [(.int y0), (.int y1)] (.int (0 : Int32))) (E_x : Exa Z h0 x "[I") (V_r0 : Arv Z h0 r0 k0 .int (3 : Int32) l0 (.int (0 : Int32))) (V_r1 : Arv Z h0 r1 k1 .int (3 : Int32) l1 (.int (0 : Int32))) (V_r2 : Arv Z h0 r2 k2 .int (3 : Int32) l2 (.int (0 : Int32))) (hy0 : l0.getD ci.toNatClampNeg (.int (0 : Int32)) = .int y0) (hy1 : l1.getD ci.toNatClampNeg (.int (0 : Int32)) = .int y1) (hy2 : l2.getD ci.toNatClampNeg (.int (0 : Int32)) = .int y2) :
    Goes p e below (fun o U' => ∃ v L, o = .returned v ∧ Q0 n0 v U'.heap L ∧ FrameEnd s o U' L room_1.cells room_1.slots) (T0.setTop (mkF m 136 #[iv p1, iv p2, iv p3, iv p4, iv p5, iv p6, iv z, iv (2 : Int32), iv ci, rv r0, rv r1, rv r2, rv o, .unset, .unset, .unset] [])) := by
  show Goes p e below _ (sF T0 m 136 #[iv p1, iv p2, iv p3, iv p4, iv p5, iv p6, iv z, iv (2 : Int32), iv ci, rv r0, rv r1, rv r2, rv o, .unset, .unset, .unset] [])
  refine Goes.step ?_ (fun _ k => XS.aload X0.here hx rfl (hb hby at_136) rfl rfl k)
  show Goes p e below _ (sF T0 m 138 #[iv p1, iv p2, iv p3, iv p4, iv p5, iv p6, iv z, iv (2 : Int32), iv ci, rv r0, rv r1, rv r2, rv o, .unset, .unset, .unset] [(.ref o)])
  refine Goes.step ?_ (fun _ k => XS.iload X0.here hx rfl (hb hby at_138) rfl  k)
  show Goes p e below _ (sF T0 m 140 #[iv p1, iv p2, iv p3, iv p4, iv p5, iv p6, iv z, iv (2 : Int32), iv ci, rv r0, rv r1, rv r2, rv o, .unset, .unset, .unset] [(.int ci), (.ref o)])
  obtain ⟨cq1, kq1, q1a, q1b, q1c⟩ := isOf hZ e0 E_o
  obtain ⟨_, _, ⟨T1, L1, k1, n1⟩, -, X1, ⟨Lc1, hQ1, l1, y1, z1⟩, st1⟩ := X0.virtualBack hx (y := (⟨"com/example/clio/clio/repository/Columns", "column", "(I)[I"⟩ : MethodName)) (z := (⟨"com/example/clio/clio/repository/Columns", "column", "(I)[I"⟩ : MethodName)) hown (mvT hZ (hw _ (List.mem_of_getElem? (i := 14) rfl))) (mvT hZ (hw _ (List.mem_of_getElem? (i := 15) rfl))) (notFace_of_selects (args := #[]) (mvT hZ (hw _ (List.mem_of_getElem? (i := 17) rfl)))) (mvT hZ (hw _ (List.mem_of_getElem? (i := 17) rfl))) (mvT hZ (hw _ (List.mem_of_getElem? (i := 16) rfl))) (by decide) (backOf (W := 0) (rmCol2 l Z a0 hw [] o ci gA kA z gl x kx y0 y1 h0 n0 Z0 F_columns F_size V_gA hin hel V_x E_x) hZ (hw _ (List.mem_of_getElem? (i := 18) rfl)) (hw _ (List.mem_of_getElem? (i := 3) rfl)) (by decide) (by decide)) q1a q1c (g := (mkF m 140 #[iv p1, iv p2, iv p3, iv p4, iv p5, iv p6, iv z, iv (2 : Int32), iv ci, rv r0, rv r1, rv r2, rv o, .unset, .unset, .unset] [(.int ci), (.ref o)])) rfl (by rw [hml]; rfl) (Steps.refl _) (argsL := [(.int ci)]) (rest := []) (lenOf pd__28I_29_5bI rfl) rfl (by show 2 * 0 + _ ≤ _; exact Nat.le_of_eq rfl) (hb hby at_140) (fun _ _ => ⟨rfl, e0, (by decide : 20 + 1 ≤ _), (by decide : 100 + 4 ≤ _)⟩)
  dsimp only [Pt.U, Pt.locs, Pt.cells, Pt.slots] at X1 l1 y1 z1 st1 hQ1
  subst l1 y1 z1
  obtain ⟨g1r, kr1, rfl, N1q, E1, gr1, Vr1, A1⟩ := hQ1
  have N1 := Fr.app N0 N1q
  refine Goes.step ?_ (fun _ k => st1.trans k)
  have g_g1r : n0 ≤ g1r := Nat.le_trans Z0 gr1
  have ne_o_g1r : o ≠ g1r := Nat.ne_of_lt (Nat.lt_of_lt_of_le F_columns.lt gr1)
  have ne_gA_g1r : gA ≠ g1r := Nat.ne_of_lt (Nat.lt_of_lt_of_le V_gA.lt gr1)
  have ne_x_g1r : x ≠ g1r := Nat.ne_of_lt (Nat.lt_of_lt_of_le V_x.lt gr1)
  have ne_r0_g1r : r0 ≠ g1r := Nat.ne_of_lt (Nat.lt_of_lt_of_le V_r0.lt gr1)
  have ne_r1_g1r : r1 ≠ g1r := Nat.ne_of_lt (Nat.lt_of_lt_of_le V_r1.lt gr1)
  have ne_r2_g1r : r2 ≠ g1r := Nat.ne_of_lt (Nat.lt_of_lt_of_le V_r2.lt gr1)
  have Zs1 : n0 ≤ T1.heap.size := Nat.le_trans Z0 E1.1
  show Goes p e below _ (sF T1 m 143 #[iv p1, iv p2, iv p3, iv p4, iv p5, iv p6, iv z, iv (2 : Int32), iv ci, rv r0, rv r1, rv r2, rv o, .unset, .unset, .unset] [(.ref g1r)])
  refine Goes.step ?_ (fun _ k => XS.astore X1.here hx rfl (hb hby at_143) rfl rfl (l' := #[iv p1, iv p2, iv p3, iv p4, iv p5, iv p6, iv z, iv (2 : Int32), iv ci, rv r0, rv r1, rv r2, rv o, rv g1r, .unset, .unset]) rfl k)
  show Goes p e below _ (sF T1 m 145 #[iv p1, iv p2, iv p3, iv p4, iv p5, iv p6, iv z, iv (2 : Int32), iv ci, rv r0, rv r1, rv r2, rv o, rv g1r, .unset, .unset] [])
  refine Goes.step ?_ (fun _ k => XS.aload X1.here hx rfl (hb hby at_145) rfl rfl k)
  show Goes p e below _ (sF T1 m 147 #[iv p1, iv p2, iv p3, iv p4, iv p5, iv p6, iv z, iv (2 : Int32), iv ci, rv r0, rv r1, rv r2, rv o, rv g1r, .unset, .unset] [(.ref g1r)])
  obtain ⟨cl2, Ar2, q2, S2, N_2, H2, G2⟩ := id Vr1
  refine Goes.step ?_ (fun _ k => X1.arraylength hx Ar2.1 (State.isArrayOf_alike hZ.alike Ar2.2.1) (g := (mkF m 147 #[iv p1, iv p2, iv p3, iv p4, iv p5, iv p6, iv z, iv (2 : Int32), iv ci, rv r0, rv r1, rv r2, rv o, rv g1r, .unset, .unset] [(.ref g1r)])) rfl rfl (hb hby at_147) _ k)
  rw [len_of S2 N_2]
  show Goes p e below _ (sF T1 m 148 #[iv p1, iv p2, iv p3, iv p4, iv p5, iv p6, iv z, iv (2 : Int32), iv ci, rv r0, rv r1, rv r2, rv o, rv g1r, .unset, .unset] [(.int (2 : Int32))])
  refine Goes.step ?_ (fun _ k => XS.iload X1.here hx rfl (hb hby at_148) rfl  k)
  show Goes p e below _ (sF T1 m 150 #[iv p1, iv p2, iv p3, iv p4, iv p5, iv p6, iv z, iv (2 : Int32), iv ci, rv r0, rv r1, rv r2, rv o, rv g1r, .unset, .unset] [(.int (2 : Int32)), (.int (2 : Int32))])
  refine Goes.step ?_ (fun _ k => XS.icmpYes X1.here hx rfl (pc0 := 150) (pc' := 155) rfl (hb hby at_150) rfl (teq (by decide : (2 : Int32) = (2 : Int32))).1 (by decide) (by decide) k)
  show Goes p e below _ (sF T1 m 155 #[iv p1, iv p2, iv p3, iv p4, iv p5, iv p6, iv z, iv (2 : Int32), iv ci, rv r0, rv r1, rv r2, rv o, rv g1r, .unset, .unset] [])
  refine Goes.step ?_ (fun _ k => XS.iload X1.here hx rfl (hb hby at_155) rfl  k)
  show Goes p e below _ (sF T1 m 157 #[iv p1, iv p2, iv p3, iv p4, iv p5, iv p6, iv z, iv (2 : Int32), iv ci, rv r0, rv r1, rv r2, rv o, rv g1r, .unset, .unset] [(.int (2 : Int32))])
  refine Goes.step ?_ (fun _ k => XS.ifNo X1.here hx rfl (hb hby at_157) rfl ((if0 _ _).trans (tlt (by decide : (0 : Int32) < (2 : Int32))).2.2.2) k)
  show Goes p e below _ (sF T1 m 160 #[iv p1, iv p2, iv p3, iv p4, iv p5, iv p6, iv z, iv (2 : Int32), iv ci, rv r0, rv r1, rv r2, rv o, rv g1r, .unset, .unset] [])
  refine Goes.step ?_ (fun _ k => XS.aload X1.here hx rfl (hb hby at_160) rfl rfl k)
  show Goes p e below _ (sF T1 m 162 #[iv p1, iv p2, iv p3, iv p4, iv p5, iv p6, iv z, iv (2 : Int32), iv ci, rv r0, rv r1, rv r2, rv o, rv g1r, .unset, .unset] [(.ref g1r)])
  refine Goes.step ?_ (fun _ k => XS.iconst X1.here hx rfl (hb hby at_162) k)
  show Goes p e below _ (sF T1 m 163 #[iv p1, iv p2, iv p3, iv p4, iv p5, iv p6, iv z, iv (2 : Int32), iv ci, rv r0, rv r1, rv r2, rv o, rv g1r, .unset, .unset] [(.int (0 : Int32)), (.ref g1r)])
  obtain ⟨cl3, Ar3, q3, S3, N_3, H3, G3⟩ := id Vr1
  have hin4 : ¬ ((0 : Int32) < 0 ∨ cl3.slots.size ≤ ((0 : Int32)).toNatClampNeg) := inb_of S3 ⟨by decide, by decide⟩
  have hat4 : cl3.slots[((0 : Int32)).toNatClampNeg]? = some (.int y0) := H3.at hin4 rfl
  refine Goes.step ?_ (fun _ k => X1.iaload hx (j := (0 : Int32)) (v := (.int y0)) Ar3.1 (State.isArrayOf_alike hZ.alike Ar3.2.1) Ar3.2.2 hin4 hat4 (g := (mkF m 163 #[iv p1, iv p2, iv p3, iv p4, iv p5, iv p6, iv z, iv (2 : Int32), iv ci, rv r0, rv r1, rv r2, rv o, rv g1r, .unset, .unset] [(.int (0 : Int32)), (.ref g1r)])) rfl rfl (hb hby at_163) _ k)
  show Goes p e below _ (sF T1 m 164 #[iv p1, iv p2, iv p3, iv p4, iv p5, iv p6, iv z, iv (2 : Int32), iv ci, rv r0, rv r1, rv r2, rv o, rv g1r, .unset, .unset] [(.int y0)])
  refine Goes.step ?_ (fun _ k => XS.aload X1.here hx rfl (hb hby at_164) rfl rfl k)
  show Goes p e below _ (sF T1 m 166 #[iv p1, iv p2, iv p3, iv p4, iv p5, iv p6, iv z, iv (2 : Int32), iv ci, rv r0, rv r1, rv r2, rv o, rv g1r, .unset, .unset] [(.ref r0), (.int y0)])
  refine Goes.step ?_ (fun _ k => XS.iload X1.here hx rfl (hb hby at_166) rfl  k)
  show Goes p e below _ (sF T1 m 168 #[iv p1, iv p2, iv p3, iv p4, iv p5, iv p6, iv z, iv (2 : Int32), iv ci, rv r0, rv r1, rv r2, rv o, rv g1r, .unset, .unset] [(.int ci), (.ref r0), (.int y0)])
  have V_r0_5 := (V_r0.ext E1)
  obtain ⟨cl6, Ar6, q6, S6, N_6, H6, G6⟩ := id V_r0_5
  have hin7 : ¬ (ci < 0 ∨ cl6.slots.size ≤ (ci).toNatClampNeg) := inb_of S6 hcin3
  have hat7 : cl6.slots[(ci).toNatClampNeg]? = some (.int y0) := H6.at hin7 hy0
  refine Goes.step ?_ (fun _ k => X1.iaload hx (j := ci) (v := (.int y0)) Ar6.1 (State.isArrayOf_alike hZ.alike Ar6.2.1) Ar6.2.2 hin7 hat7 (g := (mkF m 168 #[iv p1, iv p2, iv p3, iv p4, iv p5, iv p6, iv z, iv (2 : Int32), iv ci, rv r0, rv r1, rv r2, rv o, rv g1r, .unset, .unset] [(.int ci), (.ref r0), (.int y0)])) rfl rfl (hb hby at_168) _ k)
  show Goes p e below _ (sF T1 m 169 #[iv p1, iv p2, iv p3, iv p4, iv p5, iv p6, iv z, iv (2 : Int32), iv ci, rv r0, rv r1, rv r2, rv o, rv g1r, .unset, .unset] [(.int y0), (.int y0)])
  refine Goes.step ?_ (fun _ k => XS.icmpYes X1.here hx rfl (pc0 := 169) (pc' := 174) rfl (hb hby at_169) rfl (teq (rfl : y0 = y0)).1 (by decide) (by decide) k)
  show Goes p e below _ (sF T1 m 174 #[iv p1, iv p2, iv p3, iv p4, iv p5, iv p6, iv z, iv (2 : Int32), iv ci, rv r0, rv r1, rv r2, rv o, rv g1r, .unset, .unset] [])
  refine Goes.step ?_ (fun _ k => XS.iload X1.here hx rfl (hb hby at_174) rfl  k)
  show Goes p e below _ (sF T1 m 176 #[iv p1, iv p2, iv p3, iv p4, iv p5, iv p6, iv z, iv (2 : Int32), iv ci, rv r0, rv r1, rv r2, rv o, rv g1r, .unset, .unset] [(.int (2 : Int32))])
  refine Goes.step ?_ (fun _ k => XS.iconst X1.here hx rfl (hb hby at_176) k)
  show Goes p e below _ (sF T1 m 177 #[iv p1, iv p2, iv p3, iv p4, iv p5, iv p6, iv z, iv (2 : Int32), iv ci, rv r0, rv r1, rv r2, rv o, rv g1r, .unset, .unset] [(.int (1 : Int32)), (.int (2 : Int32))])
  refine Goes.step ?_ (fun _ k => XS.icmpNo X1.here hx rfl (hb hby at_177) rfl (tlt (by decide : (1 : Int32) < (2 : Int32))).2.2.2 k)
  show Goes p e below _ (sF T1 m 180 #[iv p1, iv p2, iv p3, iv p4, iv p5, iv p6, iv z, iv (2 : Int32), iv ci, rv r0, rv r1, rv r2, rv o, rv g1r, .unset, .unset] [])
  refine Goes.step ?_ (fun _ k => XS.aload X1.here hx rfl (hb hby at_180) rfl rfl k)
  show Goes p e below _ (sF T1 m 182 #[iv p1, iv p2, iv p3, iv p4, iv p5, iv p6, iv z, iv (2 : Int32), iv ci, rv r0, rv r1, rv r2, rv o, rv g1r, .unset, .unset] [(.ref g1r)])
  refine Goes.step ?_ (fun _ k => XS.iconst X1.here hx rfl (hb hby at_182) k)
  show Goes p e below _ (sF T1 m 183 #[iv p1, iv p2, iv p3, iv p4, iv p5, iv p6, iv z, iv (2 : Int32), iv ci, rv r0, rv r1, rv r2, rv o, rv g1r, .unset, .unset] [(.int (1 : Int32)), (.ref g1r)])
  obtain ⟨cl8, Ar8, q8, S8, N_8, H8, G8⟩ := id Vr1
  have hin9 : ¬ ((1 : Int32) < 0 ∨ cl8.slots.size ≤ ((1 : Int32)).toNatClampNeg) := inb_of S8 ⟨by decide, by decide⟩
  have hat9 : cl8.slots[((1 : Int32)).toNatClampNeg]? = some (.int y1) := H8.at hin9 rfl
  refine Goes.step ?_ (fun _ k => X1.iaload hx (j := (1 : Int32)) (v := (.int y1)) Ar8.1 (State.isArrayOf_alike hZ.alike Ar8.2.1) Ar8.2.2 hin9 hat9 (g := (mkF m 183 #[iv p1, iv p2, iv p3, iv p4, iv p5, iv p6, iv z, iv (2 : Int32), iv ci, rv r0, rv r1, rv r2, rv o, rv g1r, .unset, .unset] [(.int (1 : Int32)), (.ref g1r)])) rfl rfl (hb hby at_183) _ k)
  show Goes p e below _ (sF T1 m 184 #[iv p1, iv p2, iv p3, iv p4, iv p5, iv p6, iv z, iv (2 : Int32), iv ci, rv r0, rv r1, rv r2, rv o, rv g1r, .unset, .unset] [(.int y1)])
  refine Goes.step ?_ (fun _ k => XS.aload X1.here hx rfl (hb hby at_184) rfl rfl k)
  show Goes p e below _ (sF T1 m 186 #[iv p1, iv p2, iv p3, iv p4, iv p5, iv p6, iv z, iv (2 : Int32), iv ci, rv r0, rv r1, rv r2, rv o, rv g1r, .unset, .unset] [(.ref r1), (.int y1)])
  refine Goes.step ?_ (fun _ k => XS.iload X1.here hx rfl (hb hby at_186) rfl  k)
  show Goes p e below _ (sF T1 m 188 #[iv p1, iv p2, iv p3, iv p4, iv p5, iv p6, iv z, iv (2 : Int32), iv ci, rv r0, rv r1, rv r2, rv o, rv g1r, .unset, .unset] [(.int ci), (.ref r1), (.int y1)])
  have V_r1_10 := (V_r1.ext E1)
  obtain ⟨cl11, Ar11, q11, S11, N_11, H11, G11⟩ := id V_r1_10
  have hin12 : ¬ (ci < 0 ∨ cl11.slots.size ≤ (ci).toNatClampNeg) := inb_of S11 hcin3
  have hat12 : cl11.slots[(ci).toNatClampNeg]? = some (.int y1) := H11.at hin12 hy1
  refine Goes.step ?_ (fun _ k => X1.iaload hx (j := ci) (v := (.int y1)) Ar11.1 (State.isArrayOf_alike hZ.alike Ar11.2.1) Ar11.2.2 hin12 hat12 (g := (mkF m 188 #[iv p1, iv p2, iv p3, iv p4, iv p5, iv p6, iv z, iv (2 : Int32), iv ci, rv r0, rv r1, rv r2, rv o, rv g1r, .unset, .unset] [(.int ci), (.ref r1), (.int y1)])) rfl rfl (hb hby at_188) _ k)
  show Goes p e below _ (sF T1 m 189 #[iv p1, iv p2, iv p3, iv p4, iv p5, iv p6, iv z, iv (2 : Int32), iv ci, rv r0, rv r1, rv r2, rv o, rv g1r, .unset, .unset] [(.int y1), (.int y1)])
  refine Goes.step ?_ (fun _ k => XS.icmpYes X1.here hx rfl (pc0 := 189) (pc' := 194) rfl (hb hby at_189) rfl (teq (rfl : y1 = y1)).1 (by decide) (by decide) k)
  show Goes p e below _ (sF T1 m 194 #[iv p1, iv p2, iv p3, iv p4, iv p5, iv p6, iv z, iv (2 : Int32), iv ci, rv r0, rv r1, rv r2, rv o, rv g1r, .unset, .unset] [])
  refine Goes.step ?_ (fun _ k => XS.iload X1.here hx rfl (hb hby at_194) rfl  k)
  show Goes p e below _ (sF T1 m 196 #[iv p1, iv p2, iv p3, iv p4, iv p5, iv p6, iv z, iv (2 : Int32), iv ci, rv r0, rv r1, rv r2, rv o, rv g1r, .unset, .unset] [(.int (2 : Int32))])
  refine Goes.step ?_ (fun _ k => XS.iconst X1.here hx rfl (hb hby at_196) k)
  show Goes p e below _ (sF T1 m 197 #[iv p1, iv p2, iv p3, iv p4, iv p5, iv p6, iv z, iv (2 : Int32), iv ci, rv r0, rv r1, rv r2, rv o, rv g1r, .unset, .unset] [(.int (2 : Int32)), (.int (2 : Int32))])
  refine Goes.step ?_ (fun _ k => XS.icmpYes X1.here hx rfl (pc0 := 197) (pc' := 214) rfl (hb hby at_197) rfl (flt (by decide : ¬ ((2 : Int32) < (2 : Int32)))).2.2.2 (by decide) (by decide) k)
  show Goes p e below _ (sF T1 m 214 #[iv p1, iv p2, iv p3, iv p4, iv p5, iv p6, iv z, iv (2 : Int32), iv ci, rv r0, rv r1, rv r2, rv o, rv g1r, .unset, .unset] [])
  refine Goes.step ?_ (fun _ k => XS.iload X1.here hx rfl (hb hby at_214) rfl  k)
  show Goes p e below _ (sF T1 m 216 #[iv p1, iv p2, iv p3, iv p4, iv p5, iv p6, iv z, iv (2 : Int32), iv ci, rv r0, rv r1, rv r2, rv o, rv g1r, .unset, .unset] [(.int (2 : Int32))])
  refine Goes.step ?_ (fun _ k => XS.ifNo X1.here hx rfl (hb hby at_216) rfl ((if0 _ _).trans (tlt (by decide : (0 : Int32) < (2 : Int32))).2.2.2) k)
  show Goes p e below _ (sF T1 m 219 #[iv p1, iv p2, iv p3, iv p4, iv p5, iv p6, iv z, iv (2 : Int32), iv ci, rv r0, rv r1, rv r2, rv o, rv g1r, .unset, .unset] [])
  refine Goes.step ?_ (fun _ k => XS.aload X1.here hx rfl (hb hby at_219) rfl rfl k)
  show Goes p e below _ (sF T1 m 221 #[iv p1, iv p2, iv p3, iv p4, iv p5, iv p6, iv z, iv (2 : Int32), iv ci, rv r0, rv r1, rv r2, rv o, rv g1r, .unset, .unset] [(.ref g1r)])
  refine Goes.step ?_ (fun _ k => XS.iload X1.here hx rfl (hb hby at_221) rfl  k)
  show Goes p e below _ (sF T1 m 223 #[iv p1, iv p2, iv p3, iv p4, iv p5, iv p6, iv z, iv (2 : Int32), iv ci, rv r0, rv r1, rv r2, rv o, rv g1r, .unset, .unset] [(.int (2 : Int32)), (.ref g1r)])
  refine Goes.step ?_ (fun _ k => XS.iconst X1.here hx rfl (hb hby at_223) k)
  show Goes p e below _ (sF T1 m 224 #[iv p1, iv p2, iv p3, iv p4, iv p5, iv p6, iv z, iv (2 : Int32), iv ci, rv r0, rv r1, rv r2, rv o, rv g1r, .unset, .unset] [(.int (1 : Int32)), (.int (2 : Int32)), (.ref g1r)])
  refine Goes.step ?_ (fun _ k => XS.isub X1.here hx rfl (hb hby at_224) rfl k)
  show Goes p e below _ (sF T1 m 225 #[iv p1, iv p2, iv p3, iv p4, iv p5, iv p6, iv z, iv (2 : Int32), iv ci, rv r0, rv r1, rv r2, rv o, rv g1r, .unset, .unset] [(.int ((2 : Int32) - (1 : Int32))), (.ref g1r)])
  rw [show ((2 : Int32) - (1 : Int32)) = (1 : Int32) from by decide]
  show Goes p e below _ (sF T1 m 225 #[iv p1, iv p2, iv p3, iv p4, iv p5, iv p6, iv z, iv (2 : Int32), iv ci, rv r0, rv r1, rv r2, rv o, rv g1r, .unset, .unset] [(.int (1 : Int32)), (.ref g1r)])
  obtain ⟨cl13, Ar13, q13, S13, N_13, H13, G13⟩ := id Vr1
  have hin14 : ¬ ((1 : Int32) < 0 ∨ cl13.slots.size ≤ ((1 : Int32)).toNatClampNeg) := inb_of S13 ⟨by decide, by decide⟩
  have hat14 : cl13.slots[((1 : Int32)).toNatClampNeg]? = some (.int y1) := H13.at hin14 rfl
  refine Goes.step ?_ (fun _ k => X1.iaload hx (j := (1 : Int32)) (v := (.int y1)) Ar13.1 (State.isArrayOf_alike hZ.alike Ar13.2.1) Ar13.2.2 hin14 hat14 (g := (mkF m 225 #[iv p1, iv p2, iv p3, iv p4, iv p5, iv p6, iv z, iv (2 : Int32), iv ci, rv r0, rv r1, rv r2, rv o, rv g1r, .unset, .unset] [(.int (1 : Int32)), (.ref g1r)])) rfl rfl (hb hby at_225) _ k)
  show Goes p e below _ (sF T1 m 226 #[iv p1, iv p2, iv p3, iv p4, iv p5, iv p6, iv z, iv (2 : Int32), iv ci, rv r0, rv r1, rv r2, rv o, rv g1r, .unset, .unset] [(.int y1)])
  refine Goes.step ?_ (fun _ k => XS.istore X1.here hx rfl (hb hby at_226) rfl (l' := #[iv p1, iv p2, iv p3, iv p4, iv p5, iv p6, iv z, iv (2 : Int32), iv ci, rv r0, rv r1, rv r2, rv o, rv g1r, iv y1, .unset]) rfl k)
  show Goes p e below _ (sF T1 m 228 #[iv p1, iv p2, iv p3, iv p4, iv p5, iv p6, iv z, iv (2 : Int32), iv ci, rv r0, rv r1, rv r2, rv o, rv g1r, iv y1, .unset] [])
  refine Goes.step ?_ (fun _ k => XS.aload X1.here hx rfl (hb hby at_228) rfl rfl k)
  show Goes p e below _ (sF T1 m 230 #[iv p1, iv p2, iv p3, iv p4, iv p5, iv p6, iv z, iv (2 : Int32), iv ci, rv r0, rv r1, rv r2, rv o, rv g1r, iv y1, .unset] [(.ref g1r)])
  refine Goes.step ?_ (fun _ k => XS.iload X1.here hx rfl (hb hby at_230) rfl  k)
  show Goes p e below _ (sF T1 m 232 #[iv p1, iv p2, iv p3, iv p4, iv p5, iv p6, iv z, iv (2 : Int32), iv ci, rv r0, rv r1, rv r2, rv o, rv g1r, iv y1, .unset] [(.int (2 : Int32)), (.ref g1r)])
  refine Goes.step ?_ (fun _ k => XS.iconst X1.here hx rfl (hb hby at_232) k)
  show Goes p e below _ (sF T1 m 233 #[iv p1, iv p2, iv p3, iv p4, iv p5, iv p6, iv z, iv (2 : Int32), iv ci, rv r0, rv r1, rv r2, rv o, rv g1r, iv y1, .unset] [(.int (1 : Int32)), (.int (2 : Int32)), (.ref g1r)])
  refine Goes.step ?_ (fun _ k => XS.isub X1.here hx rfl (hb hby at_233) rfl k)
  show Goes p e below _ (sF T1 m 234 #[iv p1, iv p2, iv p3, iv p4, iv p5, iv p6, iv z, iv (2 : Int32), iv ci, rv r0, rv r1, rv r2, rv o, rv g1r, iv y1, .unset] [(.int ((2 : Int32) - (1 : Int32))), (.ref g1r)])
  rw [show ((2 : Int32) - (1 : Int32)) = (1 : Int32) from by decide]
  show Goes p e below _ (sF T1 m 234 #[iv p1, iv p2, iv p3, iv p4, iv p5, iv p6, iv z, iv (2 : Int32), iv ci, rv r0, rv r1, rv r2, rv o, rv g1r, iv y1, .unset] [(.int (1 : Int32)), (.ref g1r)])
  refine Goes.step ?_ (fun _ k => XS.iload X1.here hx rfl (hb hby at_234) rfl  k)
  show Goes p e below _ (sF T1 m 236 #[iv p1, iv p2, iv p3, iv p4, iv p5, iv p6, iv z, iv (2 : Int32), iv ci, rv r0, rv r1, rv r2, rv o, rv g1r, iv y1, .unset] [(.int y1), (.int (1 : Int32)), (.ref g1r)])
  refine Goes.step ?_ (fun _ k => XS.iconst X1.here hx rfl (hb hby at_236) k)
  show Goes p e below _ (sF T1 m 237 #[iv p1, iv p2, iv p3, iv p4, iv p5, iv p6, iv z, iv (2 : Int32), iv ci, rv r0, rv r1, rv r2, rv o, rv g1r, iv y1, .unset] [(.int (-1 : Int32)), (.int y1), (.int (1 : Int32)), (.ref g1r)])
  refine Goes.step ?_ (fun _ k => XS.ixor X1.here hx rfl (hb hby at_237) rfl k)
  show Goes p e below _ (sF T1 m 238 #[iv p1, iv p2, iv p3, iv p4, iv p5, iv p6, iv z, iv (2 : Int32), iv ci, rv r0, rv r1, rv r2, rv o, rv g1r, iv y1, .unset] [(.int (y1 ^^^ (-1 : Int32))), (.int (1 : Int32)), (.ref g1r)])
  obtain ⟨cl15, Ar15, q15, S15, N_15, H15, G15⟩ := id Vr1
  have hin16 : ¬ ((1 : Int32) < 0 ∨ cl15.slots.size ≤ ((1 : Int32)).toNatClampNeg) := inb_of S15 ⟨by decide, by decide⟩
  obtain ⟨T16, h16, X16, e16, W16, st16⟩ := stI X1 hx hZ rfl Ar15 (j := (1 : Int32)) hin16 (g := (mkF m 238 #[iv p1, iv p2, iv p3, iv p4, iv p5, iv p6, iv z, iv (2 : Int32), iv ci, rv r0, rv r1, rv r2, rv o, rv g1r, iv y1, .unset] [(.int (y1 ^^^ (-1 : Int32))), (.int (1 : Int32)), (.ref g1r)])) rfl rfl (hb hby at_238)
  have V_16 : Arv Z h16 g1r kr1 .int (2 : Int32) [(.int y0), (.int (y1 ^^^ (-1 : Int32)))] (.int (0 : Int32)) := Arv.set Ar15 q15 S15 N_15 H15 G15 rfl W16 1 rfl (Nat.le_of_ble_eq_true rfl)
  have Zs16 : n0 ≤ h16.size := Nat.le_trans Zs1 (Keep.of_wr W16).1
  have N16 := Fr.snoc X16 N1 g_g1r
  refine Goes.step ?_ st16
  show Goes p e below _ (sF T16 m 239 #[iv p1, iv p2, iv p3, iv p4, iv p5, iv p6, iv z, iv (2 : Int32), iv ci, rv r0, rv r1, rv r2, rv o, rv g1r, iv y1, .unset] [])
  refine Goes.step ?_ (fun _ k => XS.aload X16.here hx rfl (hb hby at_239) rfl rfl k)
  show Goes p e below _ (sF T16 m 241 #[iv p1, iv p2, iv p3, iv p4, iv p5, iv p6, iv z, iv (2 : Int32), iv ci, rv r0, rv r1, rv r2, rv o, rv g1r, iv y1, .unset] [(.ref o)])
  refine Goes.step ?_ (fun _ k => XS.iload X16.here hx rfl (hb hby at_241) rfl  k)
  show Goes p e below _ (sF T16 m 243 #[iv p1, iv p2, iv p3, iv p4, iv p5, iv p6, iv z, iv (2 : Int32), iv ci, rv r0, rv r1, rv r2, rv o, rv g1r, iv y1, .unset] [(.int ci), (.ref o)])
  have F_o_columns_17 := ((F_columns.ext E1).other W16 (Or.inl ne_o_g1r))
  have F_o_size_18 := ((F_size.ext E1).other W16 (Or.inl ne_o_g1r))
  have V_gA_19 := ((V_gA.ext E1).other W16 ne_gA_g1r)
  have V_x_20 := ((V_x.ext E1).other W16 ne_x_g1r)
  have E_x_21 := ((E_x.ext E1).wr W16)
  have E_o_23 := ((E_o.ext E1).wr W16)
  obtain ⟨cq22, kq22, q22a, q22b, q22c⟩ := isOf hZ e16 E_o_23
  obtain ⟨_, _, ⟨T22, L22, k22, n22⟩, -, X22, ⟨Lc22, hQ22, l22, y22, z22⟩, st22⟩ := X16.virtualBack hx (y := (⟨"com/example/clio/clio/repository/Columns", "column", "(I)[I"⟩ : MethodName)) (z := (⟨"com/example/clio/clio/repository/Columns", "column", "(I)[I"⟩ : MethodName)) hown (mvT hZ (hw _ (List.mem_of_getElem? (i := 14) rfl))) (mvT hZ (hw _ (List.mem_of_getElem? (i := 15) rfl))) (notFace_of_selects (args := #[]) (mvT hZ (hw _ (List.mem_of_getElem? (i := 17) rfl)))) (mvT hZ (hw _ (List.mem_of_getElem? (i := 17) rfl))) (mvT hZ (hw _ (List.mem_of_getElem? (i := 16) rfl))) (by decide) (backOf (W := 0) (rmCol2 l Z a0 hw [] o ci gA kA z gl x kx y0 y1 h16 n0 Zs16 F_o_columns_17 F_o_size_18 V_gA_19 hin hel V_x_20 E_x_21) hZ (hw _ (List.mem_of_getElem? (i := 18) rfl)) (hw _ (List.mem_of_getElem? (i := 3) rfl)) (by decide) (by decide)) q22a q22c (g := (mkF m 243 #[iv p1, iv p2, iv p3, iv p4, iv p5, iv p6, iv z, iv (2 : Int32), iv ci, rv r0, rv r1, rv r2, rv o, rv g1r, iv y1, .unset] [(.int ci), (.ref o)])) rfl (by rw [hml]; rfl) (Steps.refl _) (argsL := [(.int ci)]) (rest := []) (lenOf pd__28I_29_5bI rfl) rfl (by show 2 * 0 + _ ≤ _; exact Nat.le_of_eq rfl) (hb hby at_243) (fun _ _ => ⟨rfl, e16, (by decide : 20 + 1 + 1 ≤ _), (by decide : 100 + 4 + 4 ≤ _)⟩)
  dsimp only [Pt.U, Pt.locs, Pt.cells, Pt.slots] at X22 l22 y22 z22 st22 hQ22
  subst l22 y22 z22
  obtain ⟨g22r, kr22, rfl, N22q, E22, gr22, Vr22, A22⟩ := hQ22
  have N22 := Fr.app N16 N22q
  refine Goes.step ?_ (fun _ k => st22.trans k)
  have g_g22r : n0 ≤ g22r := Nat.le_trans Zs16 gr22
  have ne_o_g22r : o ≠ g22r := Nat.ne_of_lt (Nat.lt_of_lt_of_le F_o_columns_17.lt gr22)
  have ne_gA_g22r : gA ≠ g22r := Nat.ne_of_lt (Nat.lt_of_lt_of_le V_gA_19.lt gr22)
  have ne_x_g22r : x ≠ g22r := Nat.ne_of_lt (Nat.lt_of_lt_of_le V_x_20.lt gr22)
  have V_r0_24 := (V_r0_5.other W16 ne_r0_g1r)
  have ne_r0_g22r : r0 ≠ g22r := Nat.ne_of_lt (Nat.lt_of_lt_of_le V_r0_24.lt gr22)
  have V_r1_25 := (V_r1_10.other W16 ne_r1_g1r)
  have ne_r1_g22r : r1 ≠ g22r := Nat.ne_of_lt (Nat.lt_of_lt_of_le V_r1_25.lt gr22)
  have V_r2_26 := ((V_r2.ext E1).other W16 ne_r2_g1r)
  have ne_r2_g22r : r2 ≠ g22r := Nat.ne_of_lt (Nat.lt_of_lt_of_le V_r2_26.lt gr22)
  have ne_g1r_g22r : g1r ≠ g22r := Nat.ne_of_lt (Nat.lt_of_lt_of_le V_16.lt gr22)
  have Zs22 : n0 ≤ T22.heap.size := Nat.le_trans Zs16 E22.1
  show Goes p e below _ (sF T22 m 246 #[iv p1, iv p2, iv p3, iv p4, iv p5, iv p6, iv z, iv (2 : Int32), iv ci, rv r0, rv r1, rv r2, rv o, rv g1r, iv y1, .unset] [(.ref g22r)])
  refine Goes.step ?_ (fun _ k => XS.astore X22.here hx rfl (hb hby at_246) rfl rfl (l' := #[iv p1, iv p2, iv p3, iv p4, iv p5, iv p6, iv z, iv (2 : Int32), iv ci, rv r0, rv r1, rv r2, rv o, rv g1r, iv y1, rv g22r]) rfl k)
  show Goes p e below _ (sF T22 m 248 #[iv p1, iv p2, iv p3, iv p4, iv p5, iv p6, iv z, iv (2 : Int32), iv ci, rv r0, rv r1, rv r2, rv o, rv g1r, iv y1, rv g22r] [])
  refine Goes.step ?_ (fun _ k => XS.aload X22.here hx rfl (hb hby at_248) rfl rfl k)
  show Goes p e below _ (sF T22 m 250 #[iv p1, iv p2, iv p3, iv p4, iv p5, iv p6, iv z, iv (2 : Int32), iv ci, rv r0, rv r1, rv r2, rv o, rv g1r, iv y1, rv g22r] [(.ref g22r)])
  obtain ⟨cl27, Ar27, q27, S27, N_27, H27, G27⟩ := id Vr22
  refine Goes.step ?_ (fun _ k => X22.arraylength hx Ar27.1 (State.isArrayOf_alike hZ.alike Ar27.2.1) (g := (mkF m 250 #[iv p1, iv p2, iv p3, iv p4, iv p5, iv p6, iv z, iv (2 : Int32), iv ci, rv r0, rv r1, rv r2, rv o, rv g1r, iv y1, rv g22r] [(.ref g22r)])) rfl rfl (hb hby at_250) _ k)
  rw [len_of S27 N_27]
  show Goes p e below _ (sF T22 m 251 #[iv p1, iv p2, iv p3, iv p4, iv p5, iv p6, iv z, iv (2 : Int32), iv ci, rv r0, rv r1, rv r2, rv o, rv g1r, iv y1, rv g22r] [(.int (2 : Int32))])
  refine Goes.step ?_ (fun _ k => XS.iload X22.here hx rfl (hb hby at_251) rfl  k)
  show Goes p e below _ (sF T22 m 253 #[iv p1, iv p2, iv p3, iv p4, iv p5, iv p6, iv z, iv (2 : Int32), iv ci, rv r0, rv r1, rv r2, rv o, rv g1r, iv y1, rv g22r] [(.int (2 : Int32)), (.int (2 : Int32))])
  refine Goes.step ?_ (fun _ k => XS.icmpNo X22.here hx rfl (hb hby at_253) rfl (teq (by decide : (2 : Int32) = (2 : Int32))).2 k)
  show Goes p e below _ (sF T22 m 256 #[iv p1, iv p2, iv p3, iv p4, iv p5, iv p6, iv z, iv (2 : Int32), iv ci, rv r0, rv r1, rv r2, rv o, rv g1r, iv y1, rv g22r] [])
  refine Goes.step ?_ (fun _ k => XS.aload X22.here hx rfl (hb hby at_256) rfl rfl k)
  show Goes p e below _ (sF T22 m 258 #[iv p1, iv p2, iv p3, iv p4, iv p5, iv p6, iv z, iv (2 : Int32), iv ci, rv r0, rv r1, rv r2, rv o, rv g1r, iv y1, rv g22r] [(.ref g22r)])
  refine Goes.step ?_ (fun _ k => XS.iload X22.here hx rfl (hb hby at_258) rfl  k)
  show Goes p e below _ (sF T22 m 260 #[iv p1, iv p2, iv p3, iv p4, iv p5, iv p6, iv z, iv (2 : Int32), iv ci, rv r0, rv r1, rv r2, rv o, rv g1r, iv y1, rv g22r] [(.int (2 : Int32)), (.ref g22r)])
  refine Goes.step ?_ (fun _ k => XS.iconst X22.here hx rfl (hb hby at_260) k)
  show Goes p e below _ (sF T22 m 261 #[iv p1, iv p2, iv p3, iv p4, iv p5, iv p6, iv z, iv (2 : Int32), iv ci, rv r0, rv r1, rv r2, rv o, rv g1r, iv y1, rv g22r] [(.int (1 : Int32)), (.int (2 : Int32)), (.ref g22r)])
  refine Goes.step ?_ (fun _ k => XS.isub X22.here hx rfl (hb hby at_261) rfl k)
  show Goes p e below _ (sF T22 m 262 #[iv p1, iv p2, iv p3, iv p4, iv p5, iv p6, iv z, iv (2 : Int32), iv ci, rv r0, rv r1, rv r2, rv o, rv g1r, iv y1, rv g22r] [(.int ((2 : Int32) - (1 : Int32))), (.ref g22r)])
  rw [show ((2 : Int32) - (1 : Int32)) = (1 : Int32) from by decide]
  show Goes p e below _ (sF T22 m 262 #[iv p1, iv p2, iv p3, iv p4, iv p5, iv p6, iv z, iv (2 : Int32), iv ci, rv r0, rv r1, rv r2, rv o, rv g1r, iv y1, rv g22r] [(.int (1 : Int32)), (.ref g22r)])
  obtain ⟨cl28, Ar28, q28, S28, N_28, H28, G28⟩ := id Vr22
  have hin29 : ¬ ((1 : Int32) < 0 ∨ cl28.slots.size ≤ ((1 : Int32)).toNatClampNeg) := inb_of S28 ⟨by decide, by decide⟩
  have hat29 : cl28.slots[((1 : Int32)).toNatClampNeg]? = some (.int y1) := H28.at hin29 rfl
  refine Goes.step ?_ (fun _ k => X22.iaload hx (j := (1 : Int32)) (v := (.int y1)) Ar28.1 (State.isArrayOf_alike hZ.alike Ar28.2.1) Ar28.2.2 hin29 hat29 (g := (mkF m 262 #[iv p1, iv p2, iv p3, iv p4, iv p5, iv p6, iv z, iv (2 : Int32), iv ci, rv r0, rv r1, rv r2, rv o, rv g1r, iv y1, rv g22r] [(.int (1 : Int32)), (.ref g22r)])) rfl rfl (hb hby at_262) _ k)
  show Goes p e below _ (sF T22 m 263 #[iv p1, iv p2, iv p3, iv p4, iv p5, iv p6, iv z, iv (2 : Int32), iv ci, rv r0, rv r1, rv r2, rv o, rv g1r, iv y1, rv g22r] [(.int y1)])
  refine Goes.step ?_ (fun _ k => XS.iload X22.here hx rfl (hb hby at_263) rfl  k)
  show Goes p e below _ (sF T22 m 265 #[iv p1, iv p2, iv p3, iv p4, iv p5, iv p6, iv z, iv (2 : Int32), iv ci, rv r0, rv r1, rv r2, rv o, rv g1r, iv y1, rv g22r] [(.int y1), (.int y1)])
  refine Goes.step ?_ (fun _ k => XS.icmpYes X22.here hx rfl (pc0 := 265) (pc' := 270) rfl (hb hby at_265) rfl (teq (rfl : y1 = y1)).1 (by decide) (by decide) k)
  show Goes p e below _ (sF T22 m 270 #[iv p1, iv p2, iv p3, iv p4, iv p5, iv p6, iv z, iv (2 : Int32), iv ci, rv r0, rv r1, rv r2, rv o, rv g1r, iv y1, rv g22r] [])
  refine Goes.step ?_ (fun _ k => XS.aload X22.here hx rfl (hb hby at_270) rfl rfl k)
  show Goes p e below _ (sF T22 m 272 #[iv p1, iv p2, iv p3, iv p4, iv p5, iv p6, iv z, iv (2 : Int32), iv ci, rv r0, rv r1, rv r2, rv o, rv g1r, iv y1, rv g22r] [(.ref o)])
  have F_o_size_30 := (F_o_size_18.ext E22)
  have E_o_32 := (E_o_23.ext E22)
  obtain ⟨cq31, kq31, q31a, q31b, q31c⟩ := isOf hZ rfl E_o_32
  obtain ⟨_, _, ⟨T31, L31, k31, n31⟩, -, X31, ⟨Lc31, hQ31, l31, y31, z31⟩, st31⟩ := X22.virtualBack hx (y := (⟨"com/example/clio/clio/repository/Columns", "size", "()I"⟩ : MethodName)) (z := (⟨"com/example/clio/clio/repository/Columns", "size", "()I"⟩ : MethodName)) hown (mvT hZ (hw _ (List.mem_of_getElem? (i := 33) rfl))) (mvT hZ (hw _ (List.mem_of_getElem? (i := 34) rfl))) (notFace_of_selects (args := #[]) (mvT hZ (hw _ (List.mem_of_getElem? (i := 36) rfl)))) (mvT hZ (hw _ (List.mem_of_getElem? (i := 36) rfl))) (mvT hZ (hw _ (List.mem_of_getElem? (i := 35) rfl))) (by decide) (backOf (W := 0) (rmSize l Z a0 hw [] o (2 : Int32) T22.heap n0 Zs22 F_o_size_30) hZ (hw _ (List.mem_of_getElem? (i := 37) rfl)) (hw _ (List.mem_of_getElem? (i := 3) rfl)) (by decide) (by decide)) q31a q31c (g := (mkF m 272 #[iv p1, iv p2, iv p3, iv p4, iv p5, iv p6, iv z, iv (2 : Int32), iv ci, rv r0, rv r1, rv r2, rv o, rv g1r, iv y1, rv g22r] [(.ref o)])) rfl (by rw [hml]; rfl) (Steps.refl _) (argsL := []) (rest := []) (lenOf pd__28_29I rfl) rfl (by show 2 * 0 + _ ≤ _; exact Nat.le_of_eq rfl) (hb hby at_272) (fun _ _ => ⟨rfl, rfl, (by decide : 20 + 1 + 1 + 0 ≤ _), (by decide : 100 + 4 + 4 + 0 ≤ _)⟩)
  dsimp only [Pt.U, Pt.locs, Pt.cells, Pt.slots] at X31 l31 y31 z31 st31 hQ31
  subst l31 y31 z31
  obtain ⟨rfl, N31q, e31⟩ := hQ31
  have N31 := Fr.app N22 N31q
  refine Goes.step ?_ (fun _ k => st31.trans k)
  show Goes p e below _ (sF T31 m 275 #[iv p1, iv p2, iv p3, iv p4, iv p5, iv p6, iv z, iv (2 : Int32), iv ci, rv r0, rv r1, rv r2, rv o, rv g1r, iv y1, rv g22r] [(.int (2 : Int32))])
  refine Goes.step ?_ (fun _ k => XS.iload X31.here hx rfl (hb hby at_275) rfl  k)
  show Goes p e below _ (sF T31 m 277 #[iv p1, iv p2, iv p3, iv p4, iv p5, iv p6, iv z, iv (2 : Int32), iv ci, rv r0, rv r1, rv r2, rv o, rv g1r, iv y1, rv g22r] [(.int (2 : Int32)), (.int (2 : Int32))])
  refine Goes.step ?_ (fun _ k => XS.icmpNo X31.here hx rfl (hb hby at_277) rfl (teq (by decide : (2 : Int32) = (2 : Int32))).2 k)
  show Goes p e below _ (sF T31 m 280 #[iv p1, iv p2, iv p3, iv p4, iv p5, iv p6, iv z, iv (2 : Int32), iv ci, rv r0, rv r1, rv r2, rv o, rv g1r, iv y1, rv g22r] [])
  refine Goes.step ?_ (fun _ k => XS.iconst X31.here hx rfl (hb hby at_280) k)
  show Goes p e below _ (sF T31 m 281 #[iv p1, iv p2, iv p3, iv p4, iv p5, iv p6, iv z, iv (2 : Int32), iv ci, rv r0, rv r1, rv r2, rv o, rv g1r, iv y1, rv g22r] [(.int (1 : Int32))])
  refine Goes.step ?_ (fun _ k => XS.goto X31.here hx rfl (pc0 := 281) (pc' := 285) rfl (hb hby at_281) (by decide) (by decide) k)
  show Goes p e below _ (sF T31 m 285 #[iv p1, iv p2, iv p3, iv p4, iv p5, iv p6, iv z, iv (2 : Int32), iv ci, rv r0, rv r1, rv r2, rv o, rv g1r, iv y1, rv g22r] [(.int (1 : Int32))])
  refine own_out X31 hx hlk hret rfl (Or.inl ⟨rfl, by simp, _, rfl⟩) (hb hby at_285) ?_ (by decide) (by decide)
  show Q0 n0 _ T31.heap _
  rw [e31]
  exact ⟨rfl, N31⟩
set_option maxRecDepth 65536 in
set_option maxHeartbeats 40000000 in
theorem tail136_3 {p : Program} {l : Launch} {e : Env} {s : State} {m : MethodId} {args : Array Value} {below : List Frame} {meth : Method} {c : Code} {T0 : State} {locs : List Loc} {Z : State} {a0 : Array Value} {h0 : Heap} {n0 : Nat} (p1 : Int32) (p2 : Int32) (p3 : Int32) (p4 : Int32) (p5 : Int32) (p6 : Int32) (z : Int32) (ci : Int32) (r0 : Addr) (r1 : Addr) (r2 : Addr) (k0 : ClassId) (k1 : ClassId) (k2 : ClassId) (l0 : List Value) (l1 : List Value) (l2 : List Value) (o : Addr) (gA : Addr) (kA : ClassId) (gl : List Value) (x : Addr) (kx : ClassId) (y0 : Int32) (y1 : Int32) (y2 : Int32) (d0 : Int32)
    (X0 : Stand p l e room_1 s m args below meth c T0 locs (20) (100)) (hx : p.tables.exec = Jvm.exec) (hZ : Z.Warmed39 s.vm) (hw : ∀ d ∈ tables_1, d.before a0 Z = true) (hby : c.code = code) (hlk : meth.locks = false) (hret : meth.sig.returnType = some .boolean) (hml : c.maxLocals = 16) (hown : s.vm.findClass "com/example/clio/clio/repository/ColumnsColumnPinLaw" = some m.cls) (e0 : T0.heap = h0) (N0 : Fr n0 locs) (Z0 : n0 ≤ h0.size) (F_columns : Fld Z h0 o "com/example/clio/clio/repository/Columns" "columns" "[[I" (.ref gA)) (F_size : Fld Z h0 o "com/example/clio/clio/repository/Columns" "size" "I" (.int (3 : Int32))) (E_o : Exa Z h0 o "com/example/clio/clio/repository/Columns") (V_gA : Arv Z h0 gA kA (.array .int) z gl .null) (hin : ¬ ci < 0 ∧ ci < z) (hcin3 : ¬ ci < 0 ∧ ci < 3) (hel : gl.getD ci.toNatClampNeg .null = .ref x) (V_x : Arv Z h0 x kx .int (4 : Int32) [(.int y0), (.int y1), (.int y2), (.int d0)] (.int (0 : Int32))) (E_x : Exa Z h0 x "[I") (V_r0 : Arv Z h0 r0 k0 .int (3 : Int32) l0 (.int (0 : Int32))) (V_r1 : Arv Z h0 r1 k1 .int (3 : Int32) l1 (.int (0 : Int32))) (V_r2 : Arv Z h0 r2 k2 .int (3 : Int32) l2 (.int (0 : Int32))) (hy0 : l0.getD ci.toNatClampNeg (.int (0 : Int32)) = .int y0) (hy1 : l1.getD ci.toNatClampNeg (.int (0 : Int32)) = .int y1) (hy2 : l2.getD ci.toNatClampNeg (.int (0 : Int32)) = .int y2) :
    Goes p e below (fun o U' => ∃ v L, o = .returned v ∧ Q0 n0 v U'.heap L ∧ FrameEnd s o U' L room_1.cells room_1.slots) (T0.setTop (mkF m 136 #[iv p1, iv p2, iv p3, iv p4, iv p5, iv p6, iv z, iv (3 : Int32), iv ci, rv r0, rv r1, rv r2, rv o, .unset, .unset, .unset] [])) := by
  show Goes p e below _ (sF T0 m 136 #[iv p1, iv p2, iv p3, iv p4, iv p5, iv p6, iv z, iv (3 : Int32), iv ci, rv r0, rv r1, rv r2, rv o, .unset, .unset, .unset] [])
  refine Goes.step ?_ (fun _ k => XS.aload X0.here hx rfl (hb hby at_136) rfl rfl k)
  show Goes p e below _ (sF T0 m 138 #[iv p1, iv p2, iv p3, iv p4, iv p5, iv p6, iv z, iv (3 : Int32), iv ci, rv r0, rv r1, rv r2, rv o, .unset, .unset, .unset] [(.ref o)])
  refine Goes.step ?_ (fun _ k => XS.iload X0.here hx rfl (hb hby at_138) rfl  k)
  show Goes p e below _ (sF T0 m 140 #[iv p1, iv p2, iv p3, iv p4, iv p5, iv p6, iv z, iv (3 : Int32), iv ci, rv r0, rv r1, rv r2, rv o, .unset, .unset, .unset] [(.int ci), (.ref o)])
  obtain ⟨cq1, kq1, q1a, q1b, q1c⟩ := isOf hZ e0 E_o
  obtain ⟨_, _, ⟨T1, L1, k1, n1⟩, -, X1, ⟨Lc1, hQ1, l1, y1, z1⟩, st1⟩ := X0.virtualBack hx (y := (⟨"com/example/clio/clio/repository/Columns", "column", "(I)[I"⟩ : MethodName)) (z := (⟨"com/example/clio/clio/repository/Columns", "column", "(I)[I"⟩ : MethodName)) hown (mvT hZ (hw _ (List.mem_of_getElem? (i := 14) rfl))) (mvT hZ (hw _ (List.mem_of_getElem? (i := 15) rfl))) (notFace_of_selects (args := #[]) (mvT hZ (hw _ (List.mem_of_getElem? (i := 17) rfl)))) (mvT hZ (hw _ (List.mem_of_getElem? (i := 17) rfl))) (mvT hZ (hw _ (List.mem_of_getElem? (i := 16) rfl))) (by decide) (backOf (W := 0) (rmCol3 l Z a0 hw [] o ci gA kA z gl x kx y0 y1 y2 d0 h0 n0 Z0 F_columns F_size V_gA hin hel V_x E_x) hZ (hw _ (List.mem_of_getElem? (i := 18) rfl)) (hw _ (List.mem_of_getElem? (i := 3) rfl)) (by decide) (by decide)) q1a q1c (g := (mkF m 140 #[iv p1, iv p2, iv p3, iv p4, iv p5, iv p6, iv z, iv (3 : Int32), iv ci, rv r0, rv r1, rv r2, rv o, .unset, .unset, .unset] [(.int ci), (.ref o)])) rfl (by rw [hml]; rfl) (Steps.refl _) (argsL := [(.int ci)]) (rest := []) (lenOf pd__28I_29_5bI rfl) rfl (by show 2 * 0 + _ ≤ _; exact Nat.le_of_eq rfl) (hb hby at_140) (fun _ _ => ⟨rfl, e0, (by decide : 20 + 1 ≤ _), (by decide : 100 + 4 ≤ _)⟩)
  dsimp only [Pt.U, Pt.locs, Pt.cells, Pt.slots] at X1 l1 y1 z1 st1 hQ1
  subst l1 y1 z1
  obtain ⟨g1r, kr1, rfl, N1q, E1, gr1, Vr1, A1⟩ := hQ1
  have N1 := Fr.app N0 N1q
  refine Goes.step ?_ (fun _ k => st1.trans k)
  have g_g1r : n0 ≤ g1r := Nat.le_trans Z0 gr1
  have ne_o_g1r : o ≠ g1r := Nat.ne_of_lt (Nat.lt_of_lt_of_le F_columns.lt gr1)
  have ne_gA_g1r : gA ≠ g1r := Nat.ne_of_lt (Nat.lt_of_lt_of_le V_gA.lt gr1)
  have ne_x_g1r : x ≠ g1r := Nat.ne_of_lt (Nat.lt_of_lt_of_le V_x.lt gr1)
  have ne_r0_g1r : r0 ≠ g1r := Nat.ne_of_lt (Nat.lt_of_lt_of_le V_r0.lt gr1)
  have ne_r1_g1r : r1 ≠ g1r := Nat.ne_of_lt (Nat.lt_of_lt_of_le V_r1.lt gr1)
  have ne_r2_g1r : r2 ≠ g1r := Nat.ne_of_lt (Nat.lt_of_lt_of_le V_r2.lt gr1)
  have Zs1 : n0 ≤ T1.heap.size := Nat.le_trans Z0 E1.1
  show Goes p e below _ (sF T1 m 143 #[iv p1, iv p2, iv p3, iv p4, iv p5, iv p6, iv z, iv (3 : Int32), iv ci, rv r0, rv r1, rv r2, rv o, .unset, .unset, .unset] [(.ref g1r)])
  refine Goes.step ?_ (fun _ k => XS.astore X1.here hx rfl (hb hby at_143) rfl rfl (l' := #[iv p1, iv p2, iv p3, iv p4, iv p5, iv p6, iv z, iv (3 : Int32), iv ci, rv r0, rv r1, rv r2, rv o, rv g1r, .unset, .unset]) rfl k)
  show Goes p e below _ (sF T1 m 145 #[iv p1, iv p2, iv p3, iv p4, iv p5, iv p6, iv z, iv (3 : Int32), iv ci, rv r0, rv r1, rv r2, rv o, rv g1r, .unset, .unset] [])
  refine Goes.step ?_ (fun _ k => XS.aload X1.here hx rfl (hb hby at_145) rfl rfl k)
  show Goes p e below _ (sF T1 m 147 #[iv p1, iv p2, iv p3, iv p4, iv p5, iv p6, iv z, iv (3 : Int32), iv ci, rv r0, rv r1, rv r2, rv o, rv g1r, .unset, .unset] [(.ref g1r)])
  obtain ⟨cl2, Ar2, q2, S2, N_2, H2, G2⟩ := id Vr1
  refine Goes.step ?_ (fun _ k => X1.arraylength hx Ar2.1 (State.isArrayOf_alike hZ.alike Ar2.2.1) (g := (mkF m 147 #[iv p1, iv p2, iv p3, iv p4, iv p5, iv p6, iv z, iv (3 : Int32), iv ci, rv r0, rv r1, rv r2, rv o, rv g1r, .unset, .unset] [(.ref g1r)])) rfl rfl (hb hby at_147) _ k)
  rw [len_of S2 N_2]
  show Goes p e below _ (sF T1 m 148 #[iv p1, iv p2, iv p3, iv p4, iv p5, iv p6, iv z, iv (3 : Int32), iv ci, rv r0, rv r1, rv r2, rv o, rv g1r, .unset, .unset] [(.int (3 : Int32))])
  refine Goes.step ?_ (fun _ k => XS.iload X1.here hx rfl (hb hby at_148) rfl  k)
  show Goes p e below _ (sF T1 m 150 #[iv p1, iv p2, iv p3, iv p4, iv p5, iv p6, iv z, iv (3 : Int32), iv ci, rv r0, rv r1, rv r2, rv o, rv g1r, .unset, .unset] [(.int (3 : Int32)), (.int (3 : Int32))])
  refine Goes.step ?_ (fun _ k => XS.icmpYes X1.here hx rfl (pc0 := 150) (pc' := 155) rfl (hb hby at_150) rfl (teq (by decide : (3 : Int32) = (3 : Int32))).1 (by decide) (by decide) k)
  show Goes p e below _ (sF T1 m 155 #[iv p1, iv p2, iv p3, iv p4, iv p5, iv p6, iv z, iv (3 : Int32), iv ci, rv r0, rv r1, rv r2, rv o, rv g1r, .unset, .unset] [])
  refine Goes.step ?_ (fun _ k => XS.iload X1.here hx rfl (hb hby at_155) rfl  k)
  show Goes p e below _ (sF T1 m 157 #[iv p1, iv p2, iv p3, iv p4, iv p5, iv p6, iv z, iv (3 : Int32), iv ci, rv r0, rv r1, rv r2, rv o, rv g1r, .unset, .unset] [(.int (3 : Int32))])
  refine Goes.step ?_ (fun _ k => XS.ifNo X1.here hx rfl (hb hby at_157) rfl ((if0 _ _).trans (tlt (by decide : (0 : Int32) < (3 : Int32))).2.2.2) k)
  show Goes p e below _ (sF T1 m 160 #[iv p1, iv p2, iv p3, iv p4, iv p5, iv p6, iv z, iv (3 : Int32), iv ci, rv r0, rv r1, rv r2, rv o, rv g1r, .unset, .unset] [])
  refine Goes.step ?_ (fun _ k => XS.aload X1.here hx rfl (hb hby at_160) rfl rfl k)
  show Goes p e below _ (sF T1 m 162 #[iv p1, iv p2, iv p3, iv p4, iv p5, iv p6, iv z, iv (3 : Int32), iv ci, rv r0, rv r1, rv r2, rv o, rv g1r, .unset, .unset] [(.ref g1r)])
  refine Goes.step ?_ (fun _ k => XS.iconst X1.here hx rfl (hb hby at_162) k)
  show Goes p e below _ (sF T1 m 163 #[iv p1, iv p2, iv p3, iv p4, iv p5, iv p6, iv z, iv (3 : Int32), iv ci, rv r0, rv r1, rv r2, rv o, rv g1r, .unset, .unset] [(.int (0 : Int32)), (.ref g1r)])
  obtain ⟨cl3, Ar3, q3, S3, N_3, H3, G3⟩ := id Vr1
  have hin4 : ¬ ((0 : Int32) < 0 ∨ cl3.slots.size ≤ ((0 : Int32)).toNatClampNeg) := inb_of S3 ⟨by decide, by decide⟩
  have hat4 : cl3.slots[((0 : Int32)).toNatClampNeg]? = some (.int y0) := H3.at hin4 rfl
  refine Goes.step ?_ (fun _ k => X1.iaload hx (j := (0 : Int32)) (v := (.int y0)) Ar3.1 (State.isArrayOf_alike hZ.alike Ar3.2.1) Ar3.2.2 hin4 hat4 (g := (mkF m 163 #[iv p1, iv p2, iv p3, iv p4, iv p5, iv p6, iv z, iv (3 : Int32), iv ci, rv r0, rv r1, rv r2, rv o, rv g1r, .unset, .unset] [(.int (0 : Int32)), (.ref g1r)])) rfl rfl (hb hby at_163) _ k)
  show Goes p e below _ (sF T1 m 164 #[iv p1, iv p2, iv p3, iv p4, iv p5, iv p6, iv z, iv (3 : Int32), iv ci, rv r0, rv r1, rv r2, rv o, rv g1r, .unset, .unset] [(.int y0)])
  refine Goes.step ?_ (fun _ k => XS.aload X1.here hx rfl (hb hby at_164) rfl rfl k)
  show Goes p e below _ (sF T1 m 166 #[iv p1, iv p2, iv p3, iv p4, iv p5, iv p6, iv z, iv (3 : Int32), iv ci, rv r0, rv r1, rv r2, rv o, rv g1r, .unset, .unset] [(.ref r0), (.int y0)])
  refine Goes.step ?_ (fun _ k => XS.iload X1.here hx rfl (hb hby at_166) rfl  k)
  show Goes p e below _ (sF T1 m 168 #[iv p1, iv p2, iv p3, iv p4, iv p5, iv p6, iv z, iv (3 : Int32), iv ci, rv r0, rv r1, rv r2, rv o, rv g1r, .unset, .unset] [(.int ci), (.ref r0), (.int y0)])
  have V_r0_5 := (V_r0.ext E1)
  obtain ⟨cl6, Ar6, q6, S6, N_6, H6, G6⟩ := id V_r0_5
  have hin7 : ¬ (ci < 0 ∨ cl6.slots.size ≤ (ci).toNatClampNeg) := inb_of S6 hcin3
  have hat7 : cl6.slots[(ci).toNatClampNeg]? = some (.int y0) := H6.at hin7 hy0
  refine Goes.step ?_ (fun _ k => X1.iaload hx (j := ci) (v := (.int y0)) Ar6.1 (State.isArrayOf_alike hZ.alike Ar6.2.1) Ar6.2.2 hin7 hat7 (g := (mkF m 168 #[iv p1, iv p2, iv p3, iv p4, iv p5, iv p6, iv z, iv (3 : Int32), iv ci, rv r0, rv r1, rv r2, rv o, rv g1r, .unset, .unset] [(.int ci), (.ref r0), (.int y0)])) rfl rfl (hb hby at_168) _ k)
  show Goes p e below _ (sF T1 m 169 #[iv p1, iv p2, iv p3, iv p4, iv p5, iv p6, iv z, iv (3 : Int32), iv ci, rv r0, rv r1, rv r2, rv o, rv g1r, .unset, .unset] [(.int y0), (.int y0)])
  refine Goes.step ?_ (fun _ k => XS.icmpYes X1.here hx rfl (pc0 := 169) (pc' := 174) rfl (hb hby at_169) rfl (teq (rfl : y0 = y0)).1 (by decide) (by decide) k)
  show Goes p e below _ (sF T1 m 174 #[iv p1, iv p2, iv p3, iv p4, iv p5, iv p6, iv z, iv (3 : Int32), iv ci, rv r0, rv r1, rv r2, rv o, rv g1r, .unset, .unset] [])
  refine Goes.step ?_ (fun _ k => XS.iload X1.here hx rfl (hb hby at_174) rfl  k)
  show Goes p e below _ (sF T1 m 176 #[iv p1, iv p2, iv p3, iv p4, iv p5, iv p6, iv z, iv (3 : Int32), iv ci, rv r0, rv r1, rv r2, rv o, rv g1r, .unset, .unset] [(.int (3 : Int32))])
  refine Goes.step ?_ (fun _ k => XS.iconst X1.here hx rfl (hb hby at_176) k)
  show Goes p e below _ (sF T1 m 177 #[iv p1, iv p2, iv p3, iv p4, iv p5, iv p6, iv z, iv (3 : Int32), iv ci, rv r0, rv r1, rv r2, rv o, rv g1r, .unset, .unset] [(.int (1 : Int32)), (.int (3 : Int32))])
  refine Goes.step ?_ (fun _ k => XS.icmpNo X1.here hx rfl (hb hby at_177) rfl (tlt (by decide : (1 : Int32) < (3 : Int32))).2.2.2 k)
  show Goes p e below _ (sF T1 m 180 #[iv p1, iv p2, iv p3, iv p4, iv p5, iv p6, iv z, iv (3 : Int32), iv ci, rv r0, rv r1, rv r2, rv o, rv g1r, .unset, .unset] [])
  refine Goes.step ?_ (fun _ k => XS.aload X1.here hx rfl (hb hby at_180) rfl rfl k)
  show Goes p e below _ (sF T1 m 182 #[iv p1, iv p2, iv p3, iv p4, iv p5, iv p6, iv z, iv (3 : Int32), iv ci, rv r0, rv r1, rv r2, rv o, rv g1r, .unset, .unset] [(.ref g1r)])
  refine Goes.step ?_ (fun _ k => XS.iconst X1.here hx rfl (hb hby at_182) k)
  show Goes p e below _ (sF T1 m 183 #[iv p1, iv p2, iv p3, iv p4, iv p5, iv p6, iv z, iv (3 : Int32), iv ci, rv r0, rv r1, rv r2, rv o, rv g1r, .unset, .unset] [(.int (1 : Int32)), (.ref g1r)])
  obtain ⟨cl8, Ar8, q8, S8, N_8, H8, G8⟩ := id Vr1
  have hin9 : ¬ ((1 : Int32) < 0 ∨ cl8.slots.size ≤ ((1 : Int32)).toNatClampNeg) := inb_of S8 ⟨by decide, by decide⟩
  have hat9 : cl8.slots[((1 : Int32)).toNatClampNeg]? = some (.int y1) := H8.at hin9 rfl
  refine Goes.step ?_ (fun _ k => X1.iaload hx (j := (1 : Int32)) (v := (.int y1)) Ar8.1 (State.isArrayOf_alike hZ.alike Ar8.2.1) Ar8.2.2 hin9 hat9 (g := (mkF m 183 #[iv p1, iv p2, iv p3, iv p4, iv p5, iv p6, iv z, iv (3 : Int32), iv ci, rv r0, rv r1, rv r2, rv o, rv g1r, .unset, .unset] [(.int (1 : Int32)), (.ref g1r)])) rfl rfl (hb hby at_183) _ k)
  show Goes p e below _ (sF T1 m 184 #[iv p1, iv p2, iv p3, iv p4, iv p5, iv p6, iv z, iv (3 : Int32), iv ci, rv r0, rv r1, rv r2, rv o, rv g1r, .unset, .unset] [(.int y1)])
  refine Goes.step ?_ (fun _ k => XS.aload X1.here hx rfl (hb hby at_184) rfl rfl k)
  show Goes p e below _ (sF T1 m 186 #[iv p1, iv p2, iv p3, iv p4, iv p5, iv p6, iv z, iv (3 : Int32), iv ci, rv r0, rv r1, rv r2, rv o, rv g1r, .unset, .unset] [(.ref r1), (.int y1)])
  refine Goes.step ?_ (fun _ k => XS.iload X1.here hx rfl (hb hby at_186) rfl  k)
  show Goes p e below _ (sF T1 m 188 #[iv p1, iv p2, iv p3, iv p4, iv p5, iv p6, iv z, iv (3 : Int32), iv ci, rv r0, rv r1, rv r2, rv o, rv g1r, .unset, .unset] [(.int ci), (.ref r1), (.int y1)])
  have V_r1_10 := (V_r1.ext E1)
  obtain ⟨cl11, Ar11, q11, S11, N_11, H11, G11⟩ := id V_r1_10
  have hin12 : ¬ (ci < 0 ∨ cl11.slots.size ≤ (ci).toNatClampNeg) := inb_of S11 hcin3
  have hat12 : cl11.slots[(ci).toNatClampNeg]? = some (.int y1) := H11.at hin12 hy1
  refine Goes.step ?_ (fun _ k => X1.iaload hx (j := ci) (v := (.int y1)) Ar11.1 (State.isArrayOf_alike hZ.alike Ar11.2.1) Ar11.2.2 hin12 hat12 (g := (mkF m 188 #[iv p1, iv p2, iv p3, iv p4, iv p5, iv p6, iv z, iv (3 : Int32), iv ci, rv r0, rv r1, rv r2, rv o, rv g1r, .unset, .unset] [(.int ci), (.ref r1), (.int y1)])) rfl rfl (hb hby at_188) _ k)
  show Goes p e below _ (sF T1 m 189 #[iv p1, iv p2, iv p3, iv p4, iv p5, iv p6, iv z, iv (3 : Int32), iv ci, rv r0, rv r1, rv r2, rv o, rv g1r, .unset, .unset] [(.int y1), (.int y1)])
  refine Goes.step ?_ (fun _ k => XS.icmpYes X1.here hx rfl (pc0 := 189) (pc' := 194) rfl (hb hby at_189) rfl (teq (rfl : y1 = y1)).1 (by decide) (by decide) k)
  show Goes p e below _ (sF T1 m 194 #[iv p1, iv p2, iv p3, iv p4, iv p5, iv p6, iv z, iv (3 : Int32), iv ci, rv r0, rv r1, rv r2, rv o, rv g1r, .unset, .unset] [])
  refine Goes.step ?_ (fun _ k => XS.iload X1.here hx rfl (hb hby at_194) rfl  k)
  show Goes p e below _ (sF T1 m 196 #[iv p1, iv p2, iv p3, iv p4, iv p5, iv p6, iv z, iv (3 : Int32), iv ci, rv r0, rv r1, rv r2, rv o, rv g1r, .unset, .unset] [(.int (3 : Int32))])
  refine Goes.step ?_ (fun _ k => XS.iconst X1.here hx rfl (hb hby at_196) k)
  show Goes p e below _ (sF T1 m 197 #[iv p1, iv p2, iv p3, iv p4, iv p5, iv p6, iv z, iv (3 : Int32), iv ci, rv r0, rv r1, rv r2, rv o, rv g1r, .unset, .unset] [(.int (2 : Int32)), (.int (3 : Int32))])
  refine Goes.step ?_ (fun _ k => XS.icmpNo X1.here hx rfl (hb hby at_197) rfl (tlt (by decide : (2 : Int32) < (3 : Int32))).2.2.2 k)
  show Goes p e below _ (sF T1 m 200 #[iv p1, iv p2, iv p3, iv p4, iv p5, iv p6, iv z, iv (3 : Int32), iv ci, rv r0, rv r1, rv r2, rv o, rv g1r, .unset, .unset] [])
  refine Goes.step ?_ (fun _ k => XS.aload X1.here hx rfl (hb hby at_200) rfl rfl k)
  show Goes p e below _ (sF T1 m 202 #[iv p1, iv p2, iv p3, iv p4, iv p5, iv p6, iv z, iv (3 : Int32), iv ci, rv r0, rv r1, rv r2, rv o, rv g1r, .unset, .unset] [(.ref g1r)])
  refine Goes.step ?_ (fun _ k => XS.iconst X1.here hx rfl (hb hby at_202) k)
  show Goes p e below _ (sF T1 m 203 #[iv p1, iv p2, iv p3, iv p4, iv p5, iv p6, iv z, iv (3 : Int32), iv ci, rv r0, rv r1, rv r2, rv o, rv g1r, .unset, .unset] [(.int (2 : Int32)), (.ref g1r)])
  obtain ⟨cl13, Ar13, q13, S13, N_13, H13, G13⟩ := id Vr1
  have hin14 : ¬ ((2 : Int32) < 0 ∨ cl13.slots.size ≤ ((2 : Int32)).toNatClampNeg) := inb_of S13 ⟨by decide, by decide⟩
  have hat14 : cl13.slots[((2 : Int32)).toNatClampNeg]? = some (.int y2) := H13.at hin14 rfl
  refine Goes.step ?_ (fun _ k => X1.iaload hx (j := (2 : Int32)) (v := (.int y2)) Ar13.1 (State.isArrayOf_alike hZ.alike Ar13.2.1) Ar13.2.2 hin14 hat14 (g := (mkF m 203 #[iv p1, iv p2, iv p3, iv p4, iv p5, iv p6, iv z, iv (3 : Int32), iv ci, rv r0, rv r1, rv r2, rv o, rv g1r, .unset, .unset] [(.int (2 : Int32)), (.ref g1r)])) rfl rfl (hb hby at_203) _ k)
  show Goes p e below _ (sF T1 m 204 #[iv p1, iv p2, iv p3, iv p4, iv p5, iv p6, iv z, iv (3 : Int32), iv ci, rv r0, rv r1, rv r2, rv o, rv g1r, .unset, .unset] [(.int y2)])
  refine Goes.step ?_ (fun _ k => XS.aload X1.here hx rfl (hb hby at_204) rfl rfl k)
  show Goes p e below _ (sF T1 m 206 #[iv p1, iv p2, iv p3, iv p4, iv p5, iv p6, iv z, iv (3 : Int32), iv ci, rv r0, rv r1, rv r2, rv o, rv g1r, .unset, .unset] [(.ref r2), (.int y2)])
  refine Goes.step ?_ (fun _ k => XS.iload X1.here hx rfl (hb hby at_206) rfl  k)
  show Goes p e below _ (sF T1 m 208 #[iv p1, iv p2, iv p3, iv p4, iv p5, iv p6, iv z, iv (3 : Int32), iv ci, rv r0, rv r1, rv r2, rv o, rv g1r, .unset, .unset] [(.int ci), (.ref r2), (.int y2)])
  have V_r2_15 := (V_r2.ext E1)
  obtain ⟨cl16, Ar16, q16, S16, N_16, H16, G16⟩ := id V_r2_15
  have hin17 : ¬ (ci < 0 ∨ cl16.slots.size ≤ (ci).toNatClampNeg) := inb_of S16 hcin3
  have hat17 : cl16.slots[(ci).toNatClampNeg]? = some (.int y2) := H16.at hin17 hy2
  refine Goes.step ?_ (fun _ k => X1.iaload hx (j := ci) (v := (.int y2)) Ar16.1 (State.isArrayOf_alike hZ.alike Ar16.2.1) Ar16.2.2 hin17 hat17 (g := (mkF m 208 #[iv p1, iv p2, iv p3, iv p4, iv p5, iv p6, iv z, iv (3 : Int32), iv ci, rv r0, rv r1, rv r2, rv o, rv g1r, .unset, .unset] [(.int ci), (.ref r2), (.int y2)])) rfl rfl (hb hby at_208) _ k)
  show Goes p e below _ (sF T1 m 209 #[iv p1, iv p2, iv p3, iv p4, iv p5, iv p6, iv z, iv (3 : Int32), iv ci, rv r0, rv r1, rv r2, rv o, rv g1r, .unset, .unset] [(.int y2), (.int y2)])
  refine Goes.step ?_ (fun _ k => XS.icmpYes X1.here hx rfl (pc0 := 209) (pc' := 214) rfl (hb hby at_209) rfl (teq (rfl : y2 = y2)).1 (by decide) (by decide) k)
  show Goes p e below _ (sF T1 m 214 #[iv p1, iv p2, iv p3, iv p4, iv p5, iv p6, iv z, iv (3 : Int32), iv ci, rv r0, rv r1, rv r2, rv o, rv g1r, .unset, .unset] [])
  refine Goes.step ?_ (fun _ k => XS.iload X1.here hx rfl (hb hby at_214) rfl  k)
  show Goes p e below _ (sF T1 m 216 #[iv p1, iv p2, iv p3, iv p4, iv p5, iv p6, iv z, iv (3 : Int32), iv ci, rv r0, rv r1, rv r2, rv o, rv g1r, .unset, .unset] [(.int (3 : Int32))])
  refine Goes.step ?_ (fun _ k => XS.ifNo X1.here hx rfl (hb hby at_216) rfl ((if0 _ _).trans (tlt (by decide : (0 : Int32) < (3 : Int32))).2.2.2) k)
  show Goes p e below _ (sF T1 m 219 #[iv p1, iv p2, iv p3, iv p4, iv p5, iv p6, iv z, iv (3 : Int32), iv ci, rv r0, rv r1, rv r2, rv o, rv g1r, .unset, .unset] [])
  refine Goes.step ?_ (fun _ k => XS.aload X1.here hx rfl (hb hby at_219) rfl rfl k)
  show Goes p e below _ (sF T1 m 221 #[iv p1, iv p2, iv p3, iv p4, iv p5, iv p6, iv z, iv (3 : Int32), iv ci, rv r0, rv r1, rv r2, rv o, rv g1r, .unset, .unset] [(.ref g1r)])
  refine Goes.step ?_ (fun _ k => XS.iload X1.here hx rfl (hb hby at_221) rfl  k)
  show Goes p e below _ (sF T1 m 223 #[iv p1, iv p2, iv p3, iv p4, iv p5, iv p6, iv z, iv (3 : Int32), iv ci, rv r0, rv r1, rv r2, rv o, rv g1r, .unset, .unset] [(.int (3 : Int32)), (.ref g1r)])
  refine Goes.step ?_ (fun _ k => XS.iconst X1.here hx rfl (hb hby at_223) k)
  show Goes p e below _ (sF T1 m 224 #[iv p1, iv p2, iv p3, iv p4, iv p5, iv p6, iv z, iv (3 : Int32), iv ci, rv r0, rv r1, rv r2, rv o, rv g1r, .unset, .unset] [(.int (1 : Int32)), (.int (3 : Int32)), (.ref g1r)])
  refine Goes.step ?_ (fun _ k => XS.isub X1.here hx rfl (hb hby at_224) rfl k)
  show Goes p e below _ (sF T1 m 225 #[iv p1, iv p2, iv p3, iv p4, iv p5, iv p6, iv z, iv (3 : Int32), iv ci, rv r0, rv r1, rv r2, rv o, rv g1r, .unset, .unset] [(.int ((3 : Int32) - (1 : Int32))), (.ref g1r)])
  rw [show ((3 : Int32) - (1 : Int32)) = (2 : Int32) from by decide]
  show Goes p e below _ (sF T1 m 225 #[iv p1, iv p2, iv p3, iv p4, iv p5, iv p6, iv z, iv (3 : Int32), iv ci, rv r0, rv r1, rv r2, rv o, rv g1r, .unset, .unset] [(.int (2 : Int32)), (.ref g1r)])
  obtain ⟨cl18, Ar18, q18, S18, N_18, H18, G18⟩ := id Vr1
  have hin19 : ¬ ((2 : Int32) < 0 ∨ cl18.slots.size ≤ ((2 : Int32)).toNatClampNeg) := inb_of S18 ⟨by decide, by decide⟩
  have hat19 : cl18.slots[((2 : Int32)).toNatClampNeg]? = some (.int y2) := H18.at hin19 rfl
  refine Goes.step ?_ (fun _ k => X1.iaload hx (j := (2 : Int32)) (v := (.int y2)) Ar18.1 (State.isArrayOf_alike hZ.alike Ar18.2.1) Ar18.2.2 hin19 hat19 (g := (mkF m 225 #[iv p1, iv p2, iv p3, iv p4, iv p5, iv p6, iv z, iv (3 : Int32), iv ci, rv r0, rv r1, rv r2, rv o, rv g1r, .unset, .unset] [(.int (2 : Int32)), (.ref g1r)])) rfl rfl (hb hby at_225) _ k)
  show Goes p e below _ (sF T1 m 226 #[iv p1, iv p2, iv p3, iv p4, iv p5, iv p6, iv z, iv (3 : Int32), iv ci, rv r0, rv r1, rv r2, rv o, rv g1r, .unset, .unset] [(.int y2)])
  refine Goes.step ?_ (fun _ k => XS.istore X1.here hx rfl (hb hby at_226) rfl (l' := #[iv p1, iv p2, iv p3, iv p4, iv p5, iv p6, iv z, iv (3 : Int32), iv ci, rv r0, rv r1, rv r2, rv o, rv g1r, iv y2, .unset]) rfl k)
  show Goes p e below _ (sF T1 m 228 #[iv p1, iv p2, iv p3, iv p4, iv p5, iv p6, iv z, iv (3 : Int32), iv ci, rv r0, rv r1, rv r2, rv o, rv g1r, iv y2, .unset] [])
  refine Goes.step ?_ (fun _ k => XS.aload X1.here hx rfl (hb hby at_228) rfl rfl k)
  show Goes p e below _ (sF T1 m 230 #[iv p1, iv p2, iv p3, iv p4, iv p5, iv p6, iv z, iv (3 : Int32), iv ci, rv r0, rv r1, rv r2, rv o, rv g1r, iv y2, .unset] [(.ref g1r)])
  refine Goes.step ?_ (fun _ k => XS.iload X1.here hx rfl (hb hby at_230) rfl  k)
  show Goes p e below _ (sF T1 m 232 #[iv p1, iv p2, iv p3, iv p4, iv p5, iv p6, iv z, iv (3 : Int32), iv ci, rv r0, rv r1, rv r2, rv o, rv g1r, iv y2, .unset] [(.int (3 : Int32)), (.ref g1r)])
  refine Goes.step ?_ (fun _ k => XS.iconst X1.here hx rfl (hb hby at_232) k)
  show Goes p e below _ (sF T1 m 233 #[iv p1, iv p2, iv p3, iv p4, iv p5, iv p6, iv z, iv (3 : Int32), iv ci, rv r0, rv r1, rv r2, rv o, rv g1r, iv y2, .unset] [(.int (1 : Int32)), (.int (3 : Int32)), (.ref g1r)])
  refine Goes.step ?_ (fun _ k => XS.isub X1.here hx rfl (hb hby at_233) rfl k)
  show Goes p e below _ (sF T1 m 234 #[iv p1, iv p2, iv p3, iv p4, iv p5, iv p6, iv z, iv (3 : Int32), iv ci, rv r0, rv r1, rv r2, rv o, rv g1r, iv y2, .unset] [(.int ((3 : Int32) - (1 : Int32))), (.ref g1r)])
  rw [show ((3 : Int32) - (1 : Int32)) = (2 : Int32) from by decide]
  show Goes p e below _ (sF T1 m 234 #[iv p1, iv p2, iv p3, iv p4, iv p5, iv p6, iv z, iv (3 : Int32), iv ci, rv r0, rv r1, rv r2, rv o, rv g1r, iv y2, .unset] [(.int (2 : Int32)), (.ref g1r)])
  refine Goes.step ?_ (fun _ k => XS.iload X1.here hx rfl (hb hby at_234) rfl  k)
  show Goes p e below _ (sF T1 m 236 #[iv p1, iv p2, iv p3, iv p4, iv p5, iv p6, iv z, iv (3 : Int32), iv ci, rv r0, rv r1, rv r2, rv o, rv g1r, iv y2, .unset] [(.int y2), (.int (2 : Int32)), (.ref g1r)])
  refine Goes.step ?_ (fun _ k => XS.iconst X1.here hx rfl (hb hby at_236) k)
  show Goes p e below _ (sF T1 m 237 #[iv p1, iv p2, iv p3, iv p4, iv p5, iv p6, iv z, iv (3 : Int32), iv ci, rv r0, rv r1, rv r2, rv o, rv g1r, iv y2, .unset] [(.int (-1 : Int32)), (.int y2), (.int (2 : Int32)), (.ref g1r)])
  refine Goes.step ?_ (fun _ k => XS.ixor X1.here hx rfl (hb hby at_237) rfl k)
  show Goes p e below _ (sF T1 m 238 #[iv p1, iv p2, iv p3, iv p4, iv p5, iv p6, iv z, iv (3 : Int32), iv ci, rv r0, rv r1, rv r2, rv o, rv g1r, iv y2, .unset] [(.int (y2 ^^^ (-1 : Int32))), (.int (2 : Int32)), (.ref g1r)])
  obtain ⟨cl20, Ar20, q20, S20, N_20, H20, G20⟩ := id Vr1
  have hin21 : ¬ ((2 : Int32) < 0 ∨ cl20.slots.size ≤ ((2 : Int32)).toNatClampNeg) := inb_of S20 ⟨by decide, by decide⟩
  obtain ⟨T21, h21, X21, e21, W21, st21⟩ := stI X1 hx hZ rfl Ar20 (j := (2 : Int32)) hin21 (g := (mkF m 238 #[iv p1, iv p2, iv p3, iv p4, iv p5, iv p6, iv z, iv (3 : Int32), iv ci, rv r0, rv r1, rv r2, rv o, rv g1r, iv y2, .unset] [(.int (y2 ^^^ (-1 : Int32))), (.int (2 : Int32)), (.ref g1r)])) rfl rfl (hb hby at_238)
  have V_21 : Arv Z h21 g1r kr1 .int (3 : Int32) [(.int y0), (.int y1), (.int (y2 ^^^ (-1 : Int32)))] (.int (0 : Int32)) := Arv.set Ar20 q20 S20 N_20 H20 G20 rfl W21 2 rfl (Nat.le_of_ble_eq_true rfl)
  have Zs21 : n0 ≤ h21.size := Nat.le_trans Zs1 (Keep.of_wr W21).1
  have N21 := Fr.snoc X21 N1 g_g1r
  refine Goes.step ?_ st21
  show Goes p e below _ (sF T21 m 239 #[iv p1, iv p2, iv p3, iv p4, iv p5, iv p6, iv z, iv (3 : Int32), iv ci, rv r0, rv r1, rv r2, rv o, rv g1r, iv y2, .unset] [])
  refine Goes.step ?_ (fun _ k => XS.aload X21.here hx rfl (hb hby at_239) rfl rfl k)
  show Goes p e below _ (sF T21 m 241 #[iv p1, iv p2, iv p3, iv p4, iv p5, iv p6, iv z, iv (3 : Int32), iv ci, rv r0, rv r1, rv r2, rv o, rv g1r, iv y2, .unset] [(.ref o)])
  refine Goes.step ?_ (fun _ k => XS.iload X21.here hx rfl (hb hby at_241) rfl  k)
  show Goes p e below _ (sF T21 m 243 #[iv p1, iv p2, iv p3, iv p4, iv p5, iv p6, iv z, iv (3 : Int32), iv ci, rv r0, rv r1, rv r2, rv o, rv g1r, iv y2, .unset] [(.int ci), (.ref o)])
  have F_o_columns_22 := ((F_columns.ext E1).other W21 (Or.inl ne_o_g1r))
  have F_o_size_23 := ((F_size.ext E1).other W21 (Or.inl ne_o_g1r))
  have V_gA_24 := ((V_gA.ext E1).other W21 ne_gA_g1r)
  have V_x_25 := ((V_x.ext E1).other W21 ne_x_g1r)
  have E_x_26 := ((E_x.ext E1).wr W21)
  have E_o_28 := ((E_o.ext E1).wr W21)
  obtain ⟨cq27, kq27, q27a, q27b, q27c⟩ := isOf hZ e21 E_o_28
  obtain ⟨_, _, ⟨T27, L27, k27, n27⟩, -, X27, ⟨Lc27, hQ27, l27, y27, z27⟩, st27⟩ := X21.virtualBack hx (y := (⟨"com/example/clio/clio/repository/Columns", "column", "(I)[I"⟩ : MethodName)) (z := (⟨"com/example/clio/clio/repository/Columns", "column", "(I)[I"⟩ : MethodName)) hown (mvT hZ (hw _ (List.mem_of_getElem? (i := 14) rfl))) (mvT hZ (hw _ (List.mem_of_getElem? (i := 15) rfl))) (notFace_of_selects (args := #[]) (mvT hZ (hw _ (List.mem_of_getElem? (i := 17) rfl)))) (mvT hZ (hw _ (List.mem_of_getElem? (i := 17) rfl))) (mvT hZ (hw _ (List.mem_of_getElem? (i := 16) rfl))) (by decide) (backOf (W := 0) (rmCol3 l Z a0 hw [] o ci gA kA z gl x kx y0 y1 y2 d0 h21 n0 Zs21 F_o_columns_22 F_o_size_23 V_gA_24 hin hel V_x_25 E_x_26) hZ (hw _ (List.mem_of_getElem? (i := 18) rfl)) (hw _ (List.mem_of_getElem? (i := 3) rfl)) (by decide) (by decide)) q27a q27c (g := (mkF m 243 #[iv p1, iv p2, iv p3, iv p4, iv p5, iv p6, iv z, iv (3 : Int32), iv ci, rv r0, rv r1, rv r2, rv o, rv g1r, iv y2, .unset] [(.int ci), (.ref o)])) rfl (by rw [hml]; rfl) (Steps.refl _) (argsL := [(.int ci)]) (rest := []) (lenOf pd__28I_29_5bI rfl) rfl (by show 2 * 0 + _ ≤ _; exact Nat.le_of_eq rfl) (hb hby at_243) (fun _ _ => ⟨rfl, e21, (by decide : 20 + 1 + 1 ≤ _), (by decide : 100 + 4 + 4 ≤ _)⟩)
  dsimp only [Pt.U, Pt.locs, Pt.cells, Pt.slots] at X27 l27 y27 z27 st27 hQ27
  subst l27 y27 z27
  obtain ⟨g27r, kr27, rfl, N27q, E27, gr27, Vr27, A27⟩ := hQ27
  have N27 := Fr.app N21 N27q
  refine Goes.step ?_ (fun _ k => st27.trans k)
  have g_g27r : n0 ≤ g27r := Nat.le_trans Zs21 gr27
  have ne_o_g27r : o ≠ g27r := Nat.ne_of_lt (Nat.lt_of_lt_of_le F_o_columns_22.lt gr27)
  have ne_gA_g27r : gA ≠ g27r := Nat.ne_of_lt (Nat.lt_of_lt_of_le V_gA_24.lt gr27)
  have ne_x_g27r : x ≠ g27r := Nat.ne_of_lt (Nat.lt_of_lt_of_le V_x_25.lt gr27)
  have V_r0_29 := (V_r0_5.other W21 ne_r0_g1r)
  have ne_r0_g27r : r0 ≠ g27r := Nat.ne_of_lt (Nat.lt_of_lt_of_le V_r0_29.lt gr27)
  have V_r1_30 := (V_r1_10.other W21 ne_r1_g1r)
  have ne_r1_g27r : r1 ≠ g27r := Nat.ne_of_lt (Nat.lt_of_lt_of_le V_r1_30.lt gr27)
  have V_r2_31 := (V_r2_15.other W21 ne_r2_g1r)
  have ne_r2_g27r : r2 ≠ g27r := Nat.ne_of_lt (Nat.lt_of_lt_of_le V_r2_31.lt gr27)
  have ne_g1r_g27r : g1r ≠ g27r := Nat.ne_of_lt (Nat.lt_of_lt_of_le V_21.lt gr27)
  have Zs27 : n0 ≤ T27.heap.size := Nat.le_trans Zs21 E27.1
  show Goes p e below _ (sF T27 m 246 #[iv p1, iv p2, iv p3, iv p4, iv p5, iv p6, iv z, iv (3 : Int32), iv ci, rv r0, rv r1, rv r2, rv o, rv g1r, iv y2, .unset] [(.ref g27r)])
  refine Goes.step ?_ (fun _ k => XS.astore X27.here hx rfl (hb hby at_246) rfl rfl (l' := #[iv p1, iv p2, iv p3, iv p4, iv p5, iv p6, iv z, iv (3 : Int32), iv ci, rv r0, rv r1, rv r2, rv o, rv g1r, iv y2, rv g27r]) rfl k)
  show Goes p e below _ (sF T27 m 248 #[iv p1, iv p2, iv p3, iv p4, iv p5, iv p6, iv z, iv (3 : Int32), iv ci, rv r0, rv r1, rv r2, rv o, rv g1r, iv y2, rv g27r] [])
  refine Goes.step ?_ (fun _ k => XS.aload X27.here hx rfl (hb hby at_248) rfl rfl k)
  show Goes p e below _ (sF T27 m 250 #[iv p1, iv p2, iv p3, iv p4, iv p5, iv p6, iv z, iv (3 : Int32), iv ci, rv r0, rv r1, rv r2, rv o, rv g1r, iv y2, rv g27r] [(.ref g27r)])
  obtain ⟨cl32, Ar32, q32, S32, N_32, H32, G32⟩ := id Vr27
  refine Goes.step ?_ (fun _ k => X27.arraylength hx Ar32.1 (State.isArrayOf_alike hZ.alike Ar32.2.1) (g := (mkF m 250 #[iv p1, iv p2, iv p3, iv p4, iv p5, iv p6, iv z, iv (3 : Int32), iv ci, rv r0, rv r1, rv r2, rv o, rv g1r, iv y2, rv g27r] [(.ref g27r)])) rfl rfl (hb hby at_250) _ k)
  rw [len_of S32 N_32]
  show Goes p e below _ (sF T27 m 251 #[iv p1, iv p2, iv p3, iv p4, iv p5, iv p6, iv z, iv (3 : Int32), iv ci, rv r0, rv r1, rv r2, rv o, rv g1r, iv y2, rv g27r] [(.int (3 : Int32))])
  refine Goes.step ?_ (fun _ k => XS.iload X27.here hx rfl (hb hby at_251) rfl  k)
  show Goes p e below _ (sF T27 m 253 #[iv p1, iv p2, iv p3, iv p4, iv p5, iv p6, iv z, iv (3 : Int32), iv ci, rv r0, rv r1, rv r2, rv o, rv g1r, iv y2, rv g27r] [(.int (3 : Int32)), (.int (3 : Int32))])
  refine Goes.step ?_ (fun _ k => XS.icmpNo X27.here hx rfl (hb hby at_253) rfl (teq (by decide : (3 : Int32) = (3 : Int32))).2 k)
  show Goes p e below _ (sF T27 m 256 #[iv p1, iv p2, iv p3, iv p4, iv p5, iv p6, iv z, iv (3 : Int32), iv ci, rv r0, rv r1, rv r2, rv o, rv g1r, iv y2, rv g27r] [])
  refine Goes.step ?_ (fun _ k => XS.aload X27.here hx rfl (hb hby at_256) rfl rfl k)
  show Goes p e below _ (sF T27 m 258 #[iv p1, iv p2, iv p3, iv p4, iv p5, iv p6, iv z, iv (3 : Int32), iv ci, rv r0, rv r1, rv r2, rv o, rv g1r, iv y2, rv g27r] [(.ref g27r)])
  refine Goes.step ?_ (fun _ k => XS.iload X27.here hx rfl (hb hby at_258) rfl  k)
  show Goes p e below _ (sF T27 m 260 #[iv p1, iv p2, iv p3, iv p4, iv p5, iv p6, iv z, iv (3 : Int32), iv ci, rv r0, rv r1, rv r2, rv o, rv g1r, iv y2, rv g27r] [(.int (3 : Int32)), (.ref g27r)])
  refine Goes.step ?_ (fun _ k => XS.iconst X27.here hx rfl (hb hby at_260) k)
  show Goes p e below _ (sF T27 m 261 #[iv p1, iv p2, iv p3, iv p4, iv p5, iv p6, iv z, iv (3 : Int32), iv ci, rv r0, rv r1, rv r2, rv o, rv g1r, iv y2, rv g27r] [(.int (1 : Int32)), (.int (3 : Int32)), (.ref g27r)])
  refine Goes.step ?_ (fun _ k => XS.isub X27.here hx rfl (hb hby at_261) rfl k)
  show Goes p e below _ (sF T27 m 262 #[iv p1, iv p2, iv p3, iv p4, iv p5, iv p6, iv z, iv (3 : Int32), iv ci, rv r0, rv r1, rv r2, rv o, rv g1r, iv y2, rv g27r] [(.int ((3 : Int32) - (1 : Int32))), (.ref g27r)])
  rw [show ((3 : Int32) - (1 : Int32)) = (2 : Int32) from by decide]
  show Goes p e below _ (sF T27 m 262 #[iv p1, iv p2, iv p3, iv p4, iv p5, iv p6, iv z, iv (3 : Int32), iv ci, rv r0, rv r1, rv r2, rv o, rv g1r, iv y2, rv g27r] [(.int (2 : Int32)), (.ref g27r)])
  obtain ⟨cl33, Ar33, q33, S33, N_33, H33, G33⟩ := id Vr27
  have hin34 : ¬ ((2 : Int32) < 0 ∨ cl33.slots.size ≤ ((2 : Int32)).toNatClampNeg) := inb_of S33 ⟨by decide, by decide⟩
  have hat34 : cl33.slots[((2 : Int32)).toNatClampNeg]? = some (.int y2) := H33.at hin34 rfl
  refine Goes.step ?_ (fun _ k => X27.iaload hx (j := (2 : Int32)) (v := (.int y2)) Ar33.1 (State.isArrayOf_alike hZ.alike Ar33.2.1) Ar33.2.2 hin34 hat34 (g := (mkF m 262 #[iv p1, iv p2, iv p3, iv p4, iv p5, iv p6, iv z, iv (3 : Int32), iv ci, rv r0, rv r1, rv r2, rv o, rv g1r, iv y2, rv g27r] [(.int (2 : Int32)), (.ref g27r)])) rfl rfl (hb hby at_262) _ k)
  show Goes p e below _ (sF T27 m 263 #[iv p1, iv p2, iv p3, iv p4, iv p5, iv p6, iv z, iv (3 : Int32), iv ci, rv r0, rv r1, rv r2, rv o, rv g1r, iv y2, rv g27r] [(.int y2)])
  refine Goes.step ?_ (fun _ k => XS.iload X27.here hx rfl (hb hby at_263) rfl  k)
  show Goes p e below _ (sF T27 m 265 #[iv p1, iv p2, iv p3, iv p4, iv p5, iv p6, iv z, iv (3 : Int32), iv ci, rv r0, rv r1, rv r2, rv o, rv g1r, iv y2, rv g27r] [(.int y2), (.int y2)])
  refine Goes.step ?_ (fun _ k => XS.icmpYes X27.here hx rfl (pc0 := 265) (pc' := 270) rfl (hb hby at_265) rfl (teq (rfl : y2 = y2)).1 (by decide) (by decide) k)
  show Goes p e below _ (sF T27 m 270 #[iv p1, iv p2, iv p3, iv p4, iv p5, iv p6, iv z, iv (3 : Int32), iv ci, rv r0, rv r1, rv r2, rv o, rv g1r, iv y2, rv g27r] [])
  refine Goes.step ?_ (fun _ k => XS.aload X27.here hx rfl (hb hby at_270) rfl rfl k)
  show Goes p e below _ (sF T27 m 272 #[iv p1, iv p2, iv p3, iv p4, iv p5, iv p6, iv z, iv (3 : Int32), iv ci, rv r0, rv r1, rv r2, rv o, rv g1r, iv y2, rv g27r] [(.ref o)])
  have F_o_size_35 := (F_o_size_23.ext E27)
  have E_o_37 := (E_o_28.ext E27)
  obtain ⟨cq36, kq36, q36a, q36b, q36c⟩ := isOf hZ rfl E_o_37
  obtain ⟨_, _, ⟨T36, L36, k36, n36⟩, -, X36, ⟨Lc36, hQ36, l36, y36, z36⟩, st36⟩ := X27.virtualBack hx (y := (⟨"com/example/clio/clio/repository/Columns", "size", "()I"⟩ : MethodName)) (z := (⟨"com/example/clio/clio/repository/Columns", "size", "()I"⟩ : MethodName)) hown (mvT hZ (hw _ (List.mem_of_getElem? (i := 33) rfl))) (mvT hZ (hw _ (List.mem_of_getElem? (i := 34) rfl))) (notFace_of_selects (args := #[]) (mvT hZ (hw _ (List.mem_of_getElem? (i := 36) rfl)))) (mvT hZ (hw _ (List.mem_of_getElem? (i := 36) rfl))) (mvT hZ (hw _ (List.mem_of_getElem? (i := 35) rfl))) (by decide) (backOf (W := 0) (rmSize l Z a0 hw [] o (3 : Int32) T27.heap n0 Zs27 F_o_size_35) hZ (hw _ (List.mem_of_getElem? (i := 37) rfl)) (hw _ (List.mem_of_getElem? (i := 3) rfl)) (by decide) (by decide)) q36a q36c (g := (mkF m 272 #[iv p1, iv p2, iv p3, iv p4, iv p5, iv p6, iv z, iv (3 : Int32), iv ci, rv r0, rv r1, rv r2, rv o, rv g1r, iv y2, rv g27r] [(.ref o)])) rfl (by rw [hml]; rfl) (Steps.refl _) (argsL := []) (rest := []) (lenOf pd__28_29I rfl) rfl (by show 2 * 0 + _ ≤ _; exact Nat.le_of_eq rfl) (hb hby at_272) (fun _ _ => ⟨rfl, rfl, (by decide : 20 + 1 + 1 + 0 ≤ _), (by decide : 100 + 4 + 4 + 0 ≤ _)⟩)
  dsimp only [Pt.U, Pt.locs, Pt.cells, Pt.slots] at X36 l36 y36 z36 st36 hQ36
  subst l36 y36 z36
  obtain ⟨rfl, N36q, e36⟩ := hQ36
  have N36 := Fr.app N27 N36q
  refine Goes.step ?_ (fun _ k => st36.trans k)
  show Goes p e below _ (sF T36 m 275 #[iv p1, iv p2, iv p3, iv p4, iv p5, iv p6, iv z, iv (3 : Int32), iv ci, rv r0, rv r1, rv r2, rv o, rv g1r, iv y2, rv g27r] [(.int (3 : Int32))])
  refine Goes.step ?_ (fun _ k => XS.iload X36.here hx rfl (hb hby at_275) rfl  k)
  show Goes p e below _ (sF T36 m 277 #[iv p1, iv p2, iv p3, iv p4, iv p5, iv p6, iv z, iv (3 : Int32), iv ci, rv r0, rv r1, rv r2, rv o, rv g1r, iv y2, rv g27r] [(.int (3 : Int32)), (.int (3 : Int32))])
  refine Goes.step ?_ (fun _ k => XS.icmpNo X36.here hx rfl (hb hby at_277) rfl (teq (by decide : (3 : Int32) = (3 : Int32))).2 k)
  show Goes p e below _ (sF T36 m 280 #[iv p1, iv p2, iv p3, iv p4, iv p5, iv p6, iv z, iv (3 : Int32), iv ci, rv r0, rv r1, rv r2, rv o, rv g1r, iv y2, rv g27r] [])
  refine Goes.step ?_ (fun _ k => XS.iconst X36.here hx rfl (hb hby at_280) k)
  show Goes p e below _ (sF T36 m 281 #[iv p1, iv p2, iv p3, iv p4, iv p5, iv p6, iv z, iv (3 : Int32), iv ci, rv r0, rv r1, rv r2, rv o, rv g1r, iv y2, rv g27r] [(.int (1 : Int32))])
  refine Goes.step ?_ (fun _ k => XS.goto X36.here hx rfl (pc0 := 281) (pc' := 285) rfl (hb hby at_281) (by decide) (by decide) k)
  show Goes p e below _ (sF T36 m 285 #[iv p1, iv p2, iv p3, iv p4, iv p5, iv p6, iv z, iv (3 : Int32), iv ci, rv r0, rv r1, rv r2, rv o, rv g1r, iv y2, rv g27r] [(.int (1 : Int32))])
  refine own_out X36 hx hlk hret rfl (Or.inl ⟨rfl, by simp, _, rfl⟩) (hb hby at_285) ?_ (by decide) (by decide)
  show Q0 n0 _ T36.heap _
  rw [e36]
  exact ⟨rfl, N36⟩
theorem pd__28_5bI_29V : parseMethodDescriptor "([I)V" = some ⟨[(.array .int)], none⟩ := by decide +kernel
set_option maxRecDepth 65536 in
set_option maxHeartbeats 40000000 in
theorem tail98_1 {p : Program} {l : Launch} {e : Env} {s : State} {m : MethodId} {args : Array Value} {below : List Frame} {meth : Method} {c : Code} {T0 : State} {locs : List Loc} {Z : State} {a0 : Array Value} {h0 : Heap} {n0 : Nat} (p1 : Int32) (p2 : Int32) (p3 : Int32) (p4 : Int32) (p5 : Int32) (p6 : Int32) (nn : Int32) (ci : Int32) (r0 : Addr) (r1 : Addr) (r2 : Addr) (k0 : ClassId) (k1 : ClassId) (k2 : ClassId) (o : Addr) (gA : Addr) (kA : ClassId) (kx : ClassId) (x0 : Addr)
    (X0 : Stand p l e room_1 s m args below meth c T0 locs (6) (13)) (hx : p.tables.exec = Jvm.exec) (hZ : Z.Warmed39 s.vm) (hw : ∀ d ∈ tables_1, d.before a0 Z = true) (hby : c.code = code) (hlk : meth.locks = false) (hret : meth.sig.returnType = some .boolean) (hml : c.maxLocals = 16) (hown : s.vm.findClass "com/example/clio/clio/repository/ColumnsColumnPinLaw" = some m.cls) (e0 : T0.heap = h0) (N0 : Fr n0 locs) (Z0 : n0 ≤ h0.size) (hnn : nn = 0 ∨ nn = 1 ∨ nn = 2 ∨ nn = 3) (hc : ci = 0) (F_columns : Fld Z h0 o "com/example/clio/clio/repository/Columns" "columns" "[[I" (.ref gA)) (F_size : Fld Z h0 o "com/example/clio/clio/repository/Columns" "size" "I" (.int (0 : Int32))) (E_o : Exa Z h0 o "com/example/clio/clio/repository/Columns") (V_gA : Arv Z h0 gA kA (.array .int) (1 : Int32) [(.ref x0)] .null) (Ov : OvrA Z kA .int "[I") (V_x0 : Arv Z h0 x0 kx .int (1 : Int32) [(.int (0 : Int32))] (.int (0 : Int32))) (E_x0 : Exa Z h0 x0 "[I") (V_r0 : Arv Z h0 r0 k0 .int (3 : Int32) [(.int p2), (.int p5), (.int (p3 ^^^ (-1 : Int32)))] (.int (0 : Int32))) (V_r1 : Arv Z h0 r1 k1 .int (3 : Int32) [(.int p3), (.int p6), (.int (p4 ^^^ (-1 : Int32)))] (.int (0 : Int32))) (V_r2 : Arv Z h0 r2 k2 .int (3 : Int32) [(.int p4), (.int (p2 ^^^ p6)), (.int (p5 ^^^ (-1 : Int32)))] (.int (0 : Int32))) (ne_r0_r1 : r0 ≠ r1) (ne_r0_r2 : r0 ≠ r2) (ne_r0_o : r0 ≠ o) (ne_r0_gA : r0 ≠ gA) (ne_r0_x0 : r0 ≠ x0) (ne_r1_r2 : r1 ≠ r2) (ne_r1_o : r1 ≠ o) (ne_r1_gA : r1 ≠ gA) (ne_r1_x0 : r1 ≠ x0) (ne_r2_o : r2 ≠ o) (ne_r2_gA : r2 ≠ gA) (ne_r2_x0 : r2 ≠ x0) (ne_o_gA : o ≠ gA) (ne_o_x0 : o ≠ x0) (ne_gA_x0 : gA ≠ x0) (g_o : n0 ≤ o) (g_gA : n0 ≤ gA) (g_x0 : n0 ≤ x0) :
    Goes p e below (fun o U' => ∃ v L, o = .returned v ∧ Q0 n0 v U'.heap L ∧ FrameEnd s o U' L room_1.cells room_1.slots) (T0.setTop (mkF m 98 #[iv p1, iv p2, iv p3, iv p4, iv p5, iv p6, iv (1 : Int32), iv nn, iv ci, rv r0, rv r1, rv r2, rv o, .unset, .unset, .unset] [])) := by
  rcases hnn with rfl | rfl | rfl | rfl
  · show Goes p e below _ (sF T0 m 98 #[iv p1, iv p2, iv p3, iv p4, iv p5, iv p6, iv (1 : Int32), iv (0 : Int32), iv ci, rv r0, rv r1, rv r2, rv o, .unset, .unset, .unset] [])
    refine Goes.step ?_ (fun _ k => XS.iload X0.here hx rfl (hb hby at_98) rfl  k)
    show Goes p e below _ (sF T0 m 100 #[iv p1, iv p2, iv p3, iv p4, iv p5, iv p6, iv (1 : Int32), iv (0 : Int32), iv ci, rv r0, rv r1, rv r2, rv o, .unset, .unset, .unset] [(.int (0 : Int32))])
    refine Goes.step ?_ (fun _ k => XS.ifYes X0.here hx rfl (pc0 := 100) (pc' := 110) rfl (hb hby at_100) rfl ((if0 _ _).trans (flt (by decide : ¬ ((0 : Int32) < (0 : Int32)))).2.2.2) (by decide) (by decide) k)
    show Goes p e below _ (sF T0 m 110 #[iv p1, iv p2, iv p3, iv p4, iv p5, iv p6, iv (1 : Int32), iv (0 : Int32), iv ci, rv r0, rv r1, rv r2, rv o, .unset, .unset, .unset] [])
    refine Goes.step ?_ (fun _ k => XS.iload X0.here hx rfl (hb hby at_110) rfl  k)
    show Goes p e below _ (sF T0 m 112 #[iv p1, iv p2, iv p3, iv p4, iv p5, iv p6, iv (1 : Int32), iv (0 : Int32), iv ci, rv r0, rv r1, rv r2, rv o, .unset, .unset, .unset] [(.int (0 : Int32))])
    refine Goes.step ?_ (fun _ k => XS.iconst X0.here hx rfl (hb hby at_112) k)
    show Goes p e below _ (sF T0 m 113 #[iv p1, iv p2, iv p3, iv p4, iv p5, iv p6, iv (1 : Int32), iv (0 : Int32), iv ci, rv r0, rv r1, rv r2, rv o, .unset, .unset, .unset] [(.int (1 : Int32)), (.int (0 : Int32))])
    refine Goes.step ?_ (fun _ k => XS.icmpYes X0.here hx rfl (pc0 := 113) (pc' := 123) rfl (hb hby at_113) rfl (flt (by decide : ¬ ((1 : Int32) < (0 : Int32)))).2.2.2 (by decide) (by decide) k)
    show Goes p e below _ (sF T0 m 123 #[iv p1, iv p2, iv p3, iv p4, iv p5, iv p6, iv (1 : Int32), iv (0 : Int32), iv ci, rv r0, rv r1, rv r2, rv o, .unset, .unset, .unset] [])
    refine Goes.step ?_ (fun _ k => XS.iload X0.here hx rfl (hb hby at_123) rfl  k)
    show Goes p e below _ (sF T0 m 125 #[iv p1, iv p2, iv p3, iv p4, iv p5, iv p6, iv (1 : Int32), iv (0 : Int32), iv ci, rv r0, rv r1, rv r2, rv o, .unset, .unset, .unset] [(.int (0 : Int32))])
    refine Goes.step ?_ (fun _ k => XS.iconst X0.here hx rfl (hb hby at_125) k)
    show Goes p e below _ (sF T0 m 126 #[iv p1, iv p2, iv p3, iv p4, iv p5, iv p6, iv (1 : Int32), iv (0 : Int32), iv ci, rv r0, rv r1, rv r2, rv o, .unset, .unset, .unset] [(.int (2 : Int32)), (.int (0 : Int32))])
    refine Goes.step ?_ (fun _ k => XS.icmpYes X0.here hx rfl (pc0 := 126) (pc' := 136) rfl (hb hby at_126) rfl (flt (by decide : ¬ ((2 : Int32) < (0 : Int32)))).2.2.2 (by decide) (by decide) k)
    show Goes p e below _ (sF T0 m 136 #[iv p1, iv p2, iv p3, iv p4, iv p5, iv p6, iv (1 : Int32), iv (0 : Int32), iv ci, rv r0, rv r1, rv r2, rv o, .unset, .unset, .unset] [])
    rcases hc with rfl
    · exact tail136_0 p1 p2 p3 p4 p5 p6 (1 : Int32) 0 r0 r1 r2 k0 k1 k2 _ _ _ o gA kA _ x0 kx p2 p3 p4 (0 : Int32) (X0.mono (by decide) (by decide)) hx hZ hw hby hlk hret hml hown e0 N0 Z0 F_columns F_size E_o V_gA (by decide) (by decide) rfl V_x0 E_x0 V_r0 V_r1 V_r2 rfl rfl rfl
  · show Goes p e below _ (sF T0 m 98 #[iv p1, iv p2, iv p3, iv p4, iv p5, iv p6, iv (1 : Int32), iv (1 : Int32), iv ci, rv r0, rv r1, rv r2, rv o, .unset, .unset, .unset] [])
    refine Goes.step ?_ (fun _ k => XS.iload X0.here hx rfl (hb hby at_98) rfl  k)
    show Goes p e below _ (sF T0 m 100 #[iv p1, iv p2, iv p3, iv p4, iv p5, iv p6, iv (1 : Int32), iv (1 : Int32), iv ci, rv r0, rv r1, rv r2, rv o, .unset, .unset, .unset] [(.int (1 : Int32))])
    refine Goes.step ?_ (fun _ k => XS.ifNo X0.here hx rfl (hb hby at_100) rfl ((if0 _ _).trans (tlt (by decide : (0 : Int32) < (1 : Int32))).2.2.2) k)
    show Goes p e below _ (sF T0 m 103 #[iv p1, iv p2, iv p3, iv p4, iv p5, iv p6, iv (1 : Int32), iv (1 : Int32), iv ci, rv r0, rv r1, rv r2, rv o, .unset, .unset, .unset] [])
    refine Goes.step ?_ (fun _ k => XS.aload X0.here hx rfl (hb hby at_103) rfl rfl k)
    show Goes p e below _ (sF T0 m 105 #[iv p1, iv p2, iv p3, iv p4, iv p5, iv p6, iv (1 : Int32), iv (1 : Int32), iv ci, rv r0, rv r1, rv r2, rv o, .unset, .unset, .unset] [(.ref o)])
    refine Goes.step ?_ (fun _ k => XS.aload X0.here hx rfl (hb hby at_105) rfl rfl k)
    show Goes p e below _ (sF T0 m 107 #[iv p1, iv p2, iv p3, iv p4, iv p5, iv p6, iv (1 : Int32), iv (1 : Int32), iv ci, rv r0, rv r1, rv r2, rv o, .unset, .unset, .unset] [(.ref r0), (.ref o)])
    obtain ⟨cq1, kq1, q1a, q1b, q1c⟩ := isOf hZ e0 E_o
    obtain ⟨_, _, ⟨T1, L1, k1, n1⟩, -, X1, ⟨Lc1, hQ1, l1, y1, z1⟩, st1⟩ := X0.virtualBack hx (y := (⟨"com/example/clio/clio/repository/Columns", "add", "([I)V"⟩ : MethodName)) (z := (⟨"com/example/clio/clio/repository/Columns", "add", "([I)V"⟩ : MethodName)) hown (mvT hZ (hw _ (List.mem_of_getElem? (i := 38) rfl))) (mvT hZ (hw _ (List.mem_of_getElem? (i := 39) rfl))) (notFace_of_selects (args := #[]) (mvT hZ (hw _ (List.mem_of_getElem? (i := 41) rfl)))) (mvT hZ (hw _ (List.mem_of_getElem? (i := 41) rfl))) (mvT hZ (hw _ (List.mem_of_getElem? (i := 40) rfl))) (by decide) (backOf (W := 0) (rmAdd1_0 l Z a0 hw [] o r0 gA kA k0 p2 p5 (p3 ^^^ (-1 : Int32)) x0 kx (0 : Int32) h0 n0 Z0 F_columns F_size E_o V_gA Ov V_r0 V_x0 E_x0 (Ne.symm ne_r0_o) ne_o_gA ne_o_x0 ne_r0_gA ne_r0_x0 ne_gA_x0 g_o g_gA g_x0) hZ (hw _ (List.mem_of_getElem? (i := 42) rfl)) (hw _ (List.mem_of_getElem? (i := 3) rfl)) (by decide) (by decide)) q1a q1c (g := (mkF m 107 #[iv p1, iv p2, iv p3, iv p4, iv p5, iv p6, iv (1 : Int32), iv (1 : Int32), iv ci, rv r0, rv r1, rv r2, rv o, .unset, .unset, .unset] [(.ref r0), (.ref o)])) rfl (by rw [hml]; rfl) (Steps.refl _) (argsL := [(.ref r0)]) (rest := []) (lenOf pd__28_5bI_29V rfl) rfl (by show 2 * 0 + _ ≤ _; exact Nat.le_of_eq rfl) (hb hby at_107) (fun _ _ => ⟨rfl, e0, (by decide : 6 + 0 ≤ _), (by decide : 13 + 0 ≤ _)⟩)
    dsimp only [Pt.U, Pt.locs, Pt.cells, Pt.slots] at X1 l1 y1 z1 st1 hQ1
    subst l1 y1 z1
    obtain ⟨rfl, N1q, K1, Gc1, Gs1, Vg1, Vz0_1, Ez0_1⟩ := hQ1
    have N1 := Fr.app N0 N1q
    refine Goes.step ?_ (fun _ k => st1.trans k)
    have Zs1 : n0 ≤ T1.heap.size := Nat.le_trans Z0 K1.1
    have E_o_1 := E_o.keep K1
    have V_r0_1 := V_r0.keep K1 (ninS ne_r0_o (ninS ne_r0_x0 nin0))
    have V_r1_1 := V_r1.keep K1 (ninS ne_r1_o (ninS ne_r1_x0 nin0))
    have V_r2_1 := V_r2.keep K1 (ninS ne_r2_o (ninS ne_r2_x0 nin0))
    show Goes p e below _ (sF T1 m 110 #[iv p1, iv p2, iv p3, iv p4, iv p5, iv p6, iv (1 : Int32), iv (1 : Int32), iv ci, rv r0, rv r1, rv r2, rv o, .unset, .unset, .unset] [])
    refine Goes.step ?_ (fun _ k => XS.iload X1.here hx rfl (hb hby at_110) rfl  k)
    show Goes p e below _ (sF T1 m 112 #[iv p1, iv p2, iv p3, iv p4, iv p5, iv p6, iv (1 : Int32), iv (1 : Int32), iv ci, rv r0, rv r1, rv r2, rv o, .unset, .unset, .unset] [(.int (1 : Int32))])
    refine Goes.step ?_ (fun _ k => XS.iconst X1.here hx rfl (hb hby at_112) k)
    show Goes p e below _ (sF T1 m 113 #[iv p1, iv p2, iv p3, iv p4, iv p5, iv p6, iv (1 : Int32), iv (1 : Int32), iv ci, rv r0, rv r1, rv r2, rv o, .unset, .unset, .unset] [(.int (1 : Int32)), (.int (1 : Int32))])
    refine Goes.step ?_ (fun _ k => XS.icmpYes X1.here hx rfl (pc0 := 113) (pc' := 123) rfl (hb hby at_113) rfl (flt (by decide : ¬ ((1 : Int32) < (1 : Int32)))).2.2.2 (by decide) (by decide) k)
    show Goes p e below _ (sF T1 m 123 #[iv p1, iv p2, iv p3, iv p4, iv p5, iv p6, iv (1 : Int32), iv (1 : Int32), iv ci, rv r0, rv r1, rv r2, rv o, .unset, .unset, .unset] [])
    refine Goes.step ?_ (fun _ k => XS.iload X1.here hx rfl (hb hby at_123) rfl  k)
    show Goes p e below _ (sF T1 m 125 #[iv p1, iv p2, iv p3, iv p4, iv p5, iv p6, iv (1 : Int32), iv (1 : Int32), iv ci, rv r0, rv r1, rv r2, rv o, .unset, .unset, .unset] [(.int (1 : Int32))])
    refine Goes.step ?_ (fun _ k => XS.iconst X1.here hx rfl (hb hby at_125) k)
    show Goes p e below _ (sF T1 m 126 #[iv p1, iv p2, iv p3, iv p4, iv p5, iv p6, iv (1 : Int32), iv (1 : Int32), iv ci, rv r0, rv r1, rv r2, rv o, .unset, .unset, .unset] [(.int (2 : Int32)), (.int (1 : Int32))])
    refine Goes.step ?_ (fun _ k => XS.icmpYes X1.here hx rfl (pc0 := 126) (pc' := 136) rfl (hb hby at_126) rfl (flt (by decide : ¬ ((2 : Int32) < (1 : Int32)))).2.2.2 (by decide) (by decide) k)
    show Goes p e below _ (sF T1 m 136 #[iv p1, iv p2, iv p3, iv p4, iv p5, iv p6, iv (1 : Int32), iv (1 : Int32), iv ci, rv r0, rv r1, rv r2, rv o, .unset, .unset, .unset] [])
    rcases hc with rfl
    · exact tail136_1 p1 p2 p3 p4 p5 p6 (1 : Int32) 0 r0 r1 r2 k0 k1 k2 _ _ _ o gA kA _ x0 kx p2 p3 p4  (X1.mono (by decide) (by decide)) hx hZ hw hby hlk hret hml hown rfl N1 Zs1 Gc1 Gs1 E_o_1 Vg1 (by decide) (by decide) rfl Vz0_1 Ez0_1 V_r0_1 V_r1_1 V_r2_1 rfl rfl rfl
  · show Goes p e below _ (sF T0 m 98 #[iv p1, iv p2, iv p3, iv p4, iv p5, iv p6, iv (1 : Int32), iv (2 : Int32), iv ci, rv r0, rv r1, rv r2, rv o, .unset, .unset, .unset] [])
    refine Goes.step ?_ (fun _ k => XS.iload X0.here hx rfl (hb hby at_98) rfl  k)
    show Goes p e below _ (sF T0 m 100 #[iv p1, iv p2, iv p3, iv p4, iv p5, iv p6, iv (1 : Int32), iv (2 : Int32), iv ci, rv r0, rv r1, rv r2, rv o, .unset, .unset, .unset] [(.int (2 : Int32))])
    refine Goes.step ?_ (fun _ k => XS.ifNo X0.here hx rfl (hb hby at_100) rfl ((if0 _ _).trans (tlt (by decide : (0 : Int32) < (2 : Int32))).2.2.2) k)
    show Goes p e below _ (sF T0 m 103 #[iv p1, iv p2, iv p3, iv p4, iv p5, iv p6, iv (1 : Int32), iv (2 : Int32), iv ci, rv r0, rv r1, rv r2, rv o, .unset, .unset, .unset] [])
    refine Goes.step ?_ (fun _ k => XS.aload X0.here hx rfl (hb hby at_103) rfl rfl k)
    show Goes p e below _ (sF T0 m 105 #[iv p1, iv p2, iv p3, iv p4, iv p5, iv p6, iv (1 : Int32), iv (2 : Int32), iv ci, rv r0, rv r1, rv r2, rv o, .unset, .unset, .unset] [(.ref o)])
    refine Goes.step ?_ (fun _ k => XS.aload X0.here hx rfl (hb hby at_105) rfl rfl k)
    show Goes p e below _ (sF T0 m 107 #[iv p1, iv p2, iv p3, iv p4, iv p5, iv p6, iv (1 : Int32), iv (2 : Int32), iv ci, rv r0, rv r1, rv r2, rv o, .unset, .unset, .unset] [(.ref r0), (.ref o)])
    obtain ⟨cq2, kq2, q2a, q2b, q2c⟩ := isOf hZ e0 E_o
    obtain ⟨_, _, ⟨T2, L2, k2, n2⟩, -, X2, ⟨Lc2, hQ2, l2, y2, z2⟩, st2⟩ := X0.virtualBack hx (y := (⟨"com/example/clio/clio/repository/Columns", "add", "([I)V"⟩ : MethodName)) (z := (⟨"com/example/clio/clio/repository/Columns", "add", "([I)V"⟩ : MethodName)) hown (mvT hZ (hw _ (List.mem_of_getElem? (i := 38) rfl))) (mvT hZ (hw _ (List.mem_of_getElem? (i := 39) rfl))) (notFace_of_selects (args := #[]) (mvT hZ (hw _ (List.mem_of_getElem? (i := 41) rfl)))) (mvT hZ (hw _ (List.mem_of_getElem? (i := 41) rfl))) (mvT hZ (hw _ (List.mem_of_getElem? (i := 40) rfl))) (by decide) (backOf (W := 0) (rmAdd1_0 l Z a0 hw [] o r0 gA kA k0 p2 p5 (p3 ^^^ (-1 : Int32)) x0 kx (0 : Int32) h0 n0 Z0 F_columns F_size E_o V_gA Ov V_r0 V_x0 E_x0 (Ne.symm ne_r0_o) ne_o_gA ne_o_x0 ne_r0_gA ne_r0_x0 ne_gA_x0 g_o g_gA g_x0) hZ (hw _ (List.mem_of_getElem? (i := 42) rfl)) (hw _ (List.mem_of_getElem? (i := 3) rfl)) (by decide) (by decide)) q2a q2c (g := (mkF m 107 #[iv p1, iv p2, iv p3, iv p4, iv p5, iv p6, iv (1 : Int32), iv (2 : Int32), iv ci, rv r0, rv r1, rv r2, rv o, .unset, .unset, .unset] [(.ref r0), (.ref o)])) rfl (by rw [hml]; rfl) (Steps.refl _) (argsL := [(.ref r0)]) (rest := []) (lenOf pd__28_5bI_29V rfl) rfl (by show 2 * 0 + _ ≤ _; exact Nat.le_of_eq rfl) (hb hby at_107) (fun _ _ => ⟨rfl, e0, (by decide : 6 + 0 ≤ _), (by decide : 13 + 0 ≤ _)⟩)
    dsimp only [Pt.U, Pt.locs, Pt.cells, Pt.slots] at X2 l2 y2 z2 st2 hQ2
    subst l2 y2 z2
    obtain ⟨rfl, N2q, K2, Gc2, Gs2, Vg2, Vz0_2, Ez0_2⟩ := hQ2
    have N2 := Fr.app N0 N2q
    refine Goes.step ?_ (fun _ k => st2.trans k)
    have Zs2 : n0 ≤ T2.heap.size := Nat.le_trans Z0 K2.1
    have E_o_2 := E_o.keep K2
    have V_r0_2 := V_r0.keep K2 (ninS ne_r0_o (ninS ne_r0_x0 nin0))
    have V_r1_2 := V_r1.keep K2 (ninS ne_r1_o (ninS ne_r1_x0 nin0))
    have V_r2_2 := V_r2.keep K2 (ninS ne_r2_o (ninS ne_r2_x0 nin0))
    show Goes p e below _ (sF T2 m 110 #[iv p1, iv p2, iv p3, iv p4, iv p5, iv p6, iv (1 : Int32), iv (2 : Int32), iv ci, rv r0, rv r1, rv r2, rv o, .unset, .unset, .unset] [])
    refine Goes.step ?_ (fun _ k => XS.iload X2.here hx rfl (hb hby at_110) rfl  k)
    show Goes p e below _ (sF T2 m 112 #[iv p1, iv p2, iv p3, iv p4, iv p5, iv p6, iv (1 : Int32), iv (2 : Int32), iv ci, rv r0, rv r1, rv r2, rv o, .unset, .unset, .unset] [(.int (2 : Int32))])
    refine Goes.step ?_ (fun _ k => XS.iconst X2.here hx rfl (hb hby at_112) k)
    show Goes p e below _ (sF T2 m 113 #[iv p1, iv p2, iv p3, iv p4, iv p5, iv p6, iv (1 : Int32), iv (2 : Int32), iv ci, rv r0, rv r1, rv r2, rv o, .unset, .unset, .unset] [(.int (1 : Int32)), (.int (2 : Int32))])
    refine Goes.step ?_ (fun _ k => XS.icmpNo X2.here hx rfl (hb hby at_113) rfl (tlt (by decide : (1 : Int32) < (2 : Int32))).2.2.2 k)
    show Goes p e below _ (sF T2 m 116 #[iv p1, iv p2, iv p3, iv p4, iv p5, iv p6, iv (1 : Int32), iv (2 : Int32), iv ci, rv r0, rv r1, rv r2, rv o, .unset, .unset, .unset] [])
    refine Goes.step ?_ (fun _ k => XS.aload X2.here hx rfl (hb hby at_116) rfl rfl k)
    show Goes p e below _ (sF T2 m 118 #[iv p1, iv p2, iv p3, iv p4, iv p5, iv p6, iv (1 : Int32), iv (2 : Int32), iv ci, rv r0, rv r1, rv r2, rv o, .unset, .unset, .unset] [(.ref o)])
    refine Goes.step ?_ (fun _ k => XS.aload X2.here hx rfl (hb hby at_118) rfl rfl k)
    show Goes p e below _ (sF T2 m 120 #[iv p1, iv p2, iv p3, iv p4, iv p5, iv p6, iv (1 : Int32), iv (2 : Int32), iv ci, rv r0, rv r1, rv r2, rv o, .unset, .unset, .unset] [(.ref r1), (.ref o)])
    obtain ⟨cq3, kq3, q3a, q3b, q3c⟩ := isOf hZ rfl E_o_2
    obtain ⟨_, _, ⟨T3, L3, k3, n3⟩, -, X3, ⟨Lc3, hQ3, l3, y3, z3⟩, st3⟩ := X2.virtualBack hx (y := (⟨"com/example/clio/clio/repository/Columns", "add", "([I)V"⟩ : MethodName)) (z := (⟨"com/example/clio/clio/repository/Columns", "add", "([I)V"⟩ : MethodName)) hown (mvT hZ (hw _ (List.mem_of_getElem? (i := 38) rfl))) (mvT hZ (hw _ (List.mem_of_getElem? (i := 39) rfl))) (notFace_of_selects (args := #[]) (mvT hZ (hw _ (List.mem_of_getElem? (i := 41) rfl)))) (mvT hZ (hw _ (List.mem_of_getElem? (i := 41) rfl))) (mvT hZ (hw _ (List.mem_of_getElem? (i := 40) rfl))) (by decide) (backOf (W := 0) (rmAdd1_1 l Z a0 hw [] o r1 gA kA k1 p3 p6 (p4 ^^^ (-1 : Int32)) x0 kx p2 T2.heap n0 Zs2 Gc2 Gs2 E_o_2 Vg2 Ov V_r1_2 Vz0_2 Ez0_2 (Ne.symm ne_r1_o) ne_o_gA ne_o_x0 ne_r1_gA ne_r1_x0 ne_gA_x0 g_o g_gA g_x0) hZ (hw _ (List.mem_of_getElem? (i := 42) rfl)) (hw _ (List.mem_of_getElem? (i := 3) rfl)) (by decide) (by decide)) q3a q3c (g := (mkF m 120 #[iv p1, iv p2, iv p3, iv p4, iv p5, iv p6, iv (1 : Int32), iv (2 : Int32), iv ci, rv r0, rv r1, rv r2, rv o, .unset, .unset, .unset] [(.ref r1), (.ref o)])) rfl (by rw [hml]; rfl) (Steps.refl _) (argsL := [(.ref r1)]) (rest := []) (lenOf pd__28_5bI_29V rfl) rfl (by show 2 * 0 + _ ≤ _; exact Nat.le_of_eq rfl) (hb hby at_120) (fun _ _ => ⟨rfl, rfl, (by decide : 6 + 1 ≤ _), (by decide : 13 + 4 ≤ _)⟩)
    dsimp only [Pt.U, Pt.locs, Pt.cells, Pt.slots] at X3 l3 y3 z3 st3 hQ3
    subst l3 y3 z3
    obtain ⟨z0_3, kz0_3, rfl, N3q, K3, Gc3, Gs3, Vg3, Vz0_3, Ez0_3, gz0_3⟩ := hQ3
    have N3 := Fr.app N2 N3q
    refine Goes.step ?_ (fun _ k => st3.trans k)
    have g_z0_3 : n0 ≤ z0_3 := Nat.le_trans Zs2 gz0_3
    have ne_o_z0_3 : o ≠ z0_3 := Nat.ne_of_lt (Nat.lt_of_lt_of_le E_o_2.lt gz0_3)
    have ne_gA_z0_3 : gA ≠ z0_3 := Nat.ne_of_lt (Nat.lt_of_lt_of_le Vg2.lt gz0_3)
    have ne_r0_z0_3 : r0 ≠ z0_3 := Nat.ne_of_lt (Nat.lt_of_lt_of_le V_r0_2.lt gz0_3)
    have ne_r1_z0_3 : r1 ≠ z0_3 := Nat.ne_of_lt (Nat.lt_of_lt_of_le V_r1_2.lt gz0_3)
    have ne_r2_z0_3 : r2 ≠ z0_3 := Nat.ne_of_lt (Nat.lt_of_lt_of_le V_r2_2.lt gz0_3)
    have Zs3 : n0 ≤ T3.heap.size := Nat.le_trans Zs2 K3.1
    have E_o_3 := E_o_2.keep K3
    have V_r0_3 := V_r0_2.keep K3 (ninS ne_r0_o (ninS ne_r0_gA nin0))
    have V_r1_3 := V_r1_2.keep K3 (ninS ne_r1_o (ninS ne_r1_gA nin0))
    have V_r2_3 := V_r2_2.keep K3 (ninS ne_r2_o (ninS ne_r2_gA nin0))
    show Goes p e below _ (sF T3 m 123 #[iv p1, iv p2, iv p3, iv p4, iv p5, iv p6, iv (1 : Int32), iv (2 : Int32), iv ci, rv r0, rv r1, rv r2, rv o, .unset, .unset, .unset] [])
    refine Goes.step ?_ (fun _ k => XS.iload X3.here hx rfl (hb hby at_123) rfl  k)
    show Goes p e below _ (sF T3 m 125 #[iv p1, iv p2, iv p3, iv p4, iv p5, iv p6, iv (1 : Int32), iv (2 : Int32), iv ci, rv r0, rv r1, rv r2, rv o, .unset, .unset, .unset] [(.int (2 : Int32))])
    refine Goes.step ?_ (fun _ k => XS.iconst X3.here hx rfl (hb hby at_125) k)
    show Goes p e below _ (sF T3 m 126 #[iv p1, iv p2, iv p3, iv p4, iv p5, iv p6, iv (1 : Int32), iv (2 : Int32), iv ci, rv r0, rv r1, rv r2, rv o, .unset, .unset, .unset] [(.int (2 : Int32)), (.int (2 : Int32))])
    refine Goes.step ?_ (fun _ k => XS.icmpYes X3.here hx rfl (pc0 := 126) (pc' := 136) rfl (hb hby at_126) rfl (flt (by decide : ¬ ((2 : Int32) < (2 : Int32)))).2.2.2 (by decide) (by decide) k)
    show Goes p e below _ (sF T3 m 136 #[iv p1, iv p2, iv p3, iv p4, iv p5, iv p6, iv (1 : Int32), iv (2 : Int32), iv ci, rv r0, rv r1, rv r2, rv o, .unset, .unset, .unset] [])
    rcases hc with rfl
    · exact tail136_2 p1 p2 p3 p4 p5 p6 (1 : Int32) 0 r0 r1 r2 k0 k1 k2 _ _ _ o gA kA _ z0_3 kz0_3 p2 p3 p4  (X3.mono (by decide) (by decide)) hx hZ hw hby hlk hret hml hown rfl N3 Zs3 Gc3 Gs3 E_o_3 Vg3 (by decide) (by decide) rfl Vz0_3 Ez0_3 V_r0_3 V_r1_3 V_r2_3 rfl rfl rfl
  · show Goes p e below _ (sF T0 m 98 #[iv p1, iv p2, iv p3, iv p4, iv p5, iv p6, iv (1 : Int32), iv (3 : Int32), iv ci, rv r0, rv r1, rv r2, rv o, .unset, .unset, .unset] [])
    refine Goes.step ?_ (fun _ k => XS.iload X0.here hx rfl (hb hby at_98) rfl  k)
    show Goes p e below _ (sF T0 m 100 #[iv p1, iv p2, iv p3, iv p4, iv p5, iv p6, iv (1 : Int32), iv (3 : Int32), iv ci, rv r0, rv r1, rv r2, rv o, .unset, .unset, .unset] [(.int (3 : Int32))])
    refine Goes.step ?_ (fun _ k => XS.ifNo X0.here hx rfl (hb hby at_100) rfl ((if0 _ _).trans (tlt (by decide : (0 : Int32) < (3 : Int32))).2.2.2) k)
    show Goes p e below _ (sF T0 m 103 #[iv p1, iv p2, iv p3, iv p4, iv p5, iv p6, iv (1 : Int32), iv (3 : Int32), iv ci, rv r0, rv r1, rv r2, rv o, .unset, .unset, .unset] [])
    refine Goes.step ?_ (fun _ k => XS.aload X0.here hx rfl (hb hby at_103) rfl rfl k)
    show Goes p e below _ (sF T0 m 105 #[iv p1, iv p2, iv p3, iv p4, iv p5, iv p6, iv (1 : Int32), iv (3 : Int32), iv ci, rv r0, rv r1, rv r2, rv o, .unset, .unset, .unset] [(.ref o)])
    refine Goes.step ?_ (fun _ k => XS.aload X0.here hx rfl (hb hby at_105) rfl rfl k)
    show Goes p e below _ (sF T0 m 107 #[iv p1, iv p2, iv p3, iv p4, iv p5, iv p6, iv (1 : Int32), iv (3 : Int32), iv ci, rv r0, rv r1, rv r2, rv o, .unset, .unset, .unset] [(.ref r0), (.ref o)])
    obtain ⟨cq4, kq4, q4a, q4b, q4c⟩ := isOf hZ e0 E_o
    obtain ⟨_, _, ⟨T4, L4, k4, n4⟩, -, X4, ⟨Lc4, hQ4, l4, y4, z4⟩, st4⟩ := X0.virtualBack hx (y := (⟨"com/example/clio/clio/repository/Columns", "add", "([I)V"⟩ : MethodName)) (z := (⟨"com/example/clio/clio/repository/Columns", "add", "([I)V"⟩ : MethodName)) hown (mvT hZ (hw _ (List.mem_of_getElem? (i := 38) rfl))) (mvT hZ (hw _ (List.mem_of_getElem? (i := 39) rfl))) (notFace_of_selects (args := #[]) (mvT hZ (hw _ (List.mem_of_getElem? (i := 41) rfl)))) (mvT hZ (hw _ (List.mem_of_getElem? (i := 41) rfl))) (mvT hZ (hw _ (List.mem_of_getElem? (i := 40) rfl))) (by decide) (backOf (W := 0) (rmAdd1_0 l Z a0 hw [] o r0 gA kA k0 p2 p5 (p3 ^^^ (-1 : Int32)) x0 kx (0 : Int32) h0 n0 Z0 F_columns F_size E_o V_gA Ov V_r0 V_x0 E_x0 (Ne.symm ne_r0_o) ne_o_gA ne_o_x0 ne_r0_gA ne_r0_x0 ne_gA_x0 g_o g_gA g_x0) hZ (hw _ (List.mem_of_getElem? (i := 42) rfl)) (hw _ (List.mem_of_getElem? (i := 3) rfl)) (by decide) (by decide)) q4a q4c (g := (mkF m 107 #[iv p1, iv p2, iv p3, iv p4, iv p5, iv p6, iv (1 : Int32), iv (3 : Int32), iv ci, rv r0, rv r1, rv r2, rv o, .unset, .unset, .unset] [(.ref r0), (.ref o)])) rfl (by rw [hml]; rfl) (Steps.refl _) (argsL := [(.ref r0)]) (rest := []) (lenOf pd__28_5bI_29V rfl) rfl (by show 2 * 0 + _ ≤ _; exact Nat.le_of_eq rfl) (hb hby at_107) (fun _ _ => ⟨rfl, e0, (by decide : 6 + 0 ≤ _), (by decide : 13 + 0 ≤ _)⟩)
    dsimp only [Pt.U, Pt.locs, Pt.cells, Pt.slots] at X4 l4 y4 z4 st4 hQ4
    subst l4 y4 z4
    obtain ⟨rfl, N4q, K4, Gc4, Gs4, Vg4, Vz0_4, Ez0_4⟩ := hQ4
    have N4 := Fr.app N0 N4q
    refine Goes.step ?_ (fun _ k => st4.trans k)
    have Zs4 : n0 ≤ T4.heap.size := Nat.le_trans Z0 K4.1
    have E_o_4 := E_o.keep K4
    have V_r0_4 := V_r0.keep K4 (ninS ne_r0_o (ninS ne_r0_x0 nin0))
    have V_r1_4 := V_r1.keep K4 (ninS ne_r1_o (ninS ne_r1_x0 nin0))
    have V_r2_4 := V_r2.keep K4 (ninS ne_r2_o (ninS ne_r2_x0 nin0))
    show Goes p e below _ (sF T4 m 110 #[iv p1, iv p2, iv p3, iv p4, iv p5, iv p6, iv (1 : Int32), iv (3 : Int32), iv ci, rv r0, rv r1, rv r2, rv o, .unset, .unset, .unset] [])
    refine Goes.step ?_ (fun _ k => XS.iload X4.here hx rfl (hb hby at_110) rfl  k)
    show Goes p e below _ (sF T4 m 112 #[iv p1, iv p2, iv p3, iv p4, iv p5, iv p6, iv (1 : Int32), iv (3 : Int32), iv ci, rv r0, rv r1, rv r2, rv o, .unset, .unset, .unset] [(.int (3 : Int32))])
    refine Goes.step ?_ (fun _ k => XS.iconst X4.here hx rfl (hb hby at_112) k)
    show Goes p e below _ (sF T4 m 113 #[iv p1, iv p2, iv p3, iv p4, iv p5, iv p6, iv (1 : Int32), iv (3 : Int32), iv ci, rv r0, rv r1, rv r2, rv o, .unset, .unset, .unset] [(.int (1 : Int32)), (.int (3 : Int32))])
    refine Goes.step ?_ (fun _ k => XS.icmpNo X4.here hx rfl (hb hby at_113) rfl (tlt (by decide : (1 : Int32) < (3 : Int32))).2.2.2 k)
    show Goes p e below _ (sF T4 m 116 #[iv p1, iv p2, iv p3, iv p4, iv p5, iv p6, iv (1 : Int32), iv (3 : Int32), iv ci, rv r0, rv r1, rv r2, rv o, .unset, .unset, .unset] [])
    refine Goes.step ?_ (fun _ k => XS.aload X4.here hx rfl (hb hby at_116) rfl rfl k)
    show Goes p e below _ (sF T4 m 118 #[iv p1, iv p2, iv p3, iv p4, iv p5, iv p6, iv (1 : Int32), iv (3 : Int32), iv ci, rv r0, rv r1, rv r2, rv o, .unset, .unset, .unset] [(.ref o)])
    refine Goes.step ?_ (fun _ k => XS.aload X4.here hx rfl (hb hby at_118) rfl rfl k)
    show Goes p e below _ (sF T4 m 120 #[iv p1, iv p2, iv p3, iv p4, iv p5, iv p6, iv (1 : Int32), iv (3 : Int32), iv ci, rv r0, rv r1, rv r2, rv o, .unset, .unset, .unset] [(.ref r1), (.ref o)])
    obtain ⟨cq5, kq5, q5a, q5b, q5c⟩ := isOf hZ rfl E_o_4
    obtain ⟨_, _, ⟨T5, L5, k5, n5⟩, -, X5, ⟨Lc5, hQ5, l5, y5, z5⟩, st5⟩ := X4.virtualBack hx (y := (⟨"com/example/clio/clio/repository/Columns", "add", "([I)V"⟩ : MethodName)) (z := (⟨"com/example/clio/clio/repository/Columns", "add", "([I)V"⟩ : MethodName)) hown (mvT hZ (hw _ (List.mem_of_getElem? (i := 38) rfl))) (mvT hZ (hw _ (List.mem_of_getElem? (i := 39) rfl))) (notFace_of_selects (args := #[]) (mvT hZ (hw _ (List.mem_of_getElem? (i := 41) rfl)))) (mvT hZ (hw _ (List.mem_of_getElem? (i := 41) rfl))) (mvT hZ (hw _ (List.mem_of_getElem? (i := 40) rfl))) (by decide) (backOf (W := 0) (rmAdd1_1 l Z a0 hw [] o r1 gA kA k1 p3 p6 (p4 ^^^ (-1 : Int32)) x0 kx p2 T4.heap n0 Zs4 Gc4 Gs4 E_o_4 Vg4 Ov V_r1_4 Vz0_4 Ez0_4 (Ne.symm ne_r1_o) ne_o_gA ne_o_x0 ne_r1_gA ne_r1_x0 ne_gA_x0 g_o g_gA g_x0) hZ (hw _ (List.mem_of_getElem? (i := 42) rfl)) (hw _ (List.mem_of_getElem? (i := 3) rfl)) (by decide) (by decide)) q5a q5c (g := (mkF m 120 #[iv p1, iv p2, iv p3, iv p4, iv p5, iv p6, iv (1 : Int32), iv (3 : Int32), iv ci, rv r0, rv r1, rv r2, rv o, .unset, .unset, .unset] [(.ref r1), (.ref o)])) rfl (by rw [hml]; rfl) (Steps.refl _) (argsL := [(.ref r1)]) (rest := []) (lenOf pd__28_5bI_29V rfl) rfl (by show 2 * 0 + _ ≤ _; exact Nat.le_of_eq rfl) (hb hby at_120) (fun _ _ => ⟨rfl, rfl, (by decide : 6 + 1 ≤ _), (by decide : 13 + 4 ≤ _)⟩)
    dsimp only [Pt.U, Pt.locs, Pt.cells, Pt.slots] at X5 l5 y5 z5 st5 hQ5
    subst l5 y5 z5
    obtain ⟨z0_5, kz0_5, rfl, N5q, K5, Gc5, Gs5, Vg5, Vz0_5, Ez0_5, gz0_5⟩ := hQ5
    have N5 := Fr.app N4 N5q
    refine Goes.step ?_ (fun _ k => st5.trans k)
    have g_z0_5 : n0 ≤ z0_5 := Nat.le_trans Zs4 gz0_5
    have ne_o_z0_5 : o ≠ z0_5 := Nat.ne_of_lt (Nat.lt_of_lt_of_le E_o_4.lt gz0_5)
    have ne_gA_z0_5 : gA ≠ z0_5 := Nat.ne_of_lt (Nat.lt_of_lt_of_le Vg4.lt gz0_5)
    have ne_r0_z0_5 : r0 ≠ z0_5 := Nat.ne_of_lt (Nat.lt_of_lt_of_le V_r0_4.lt gz0_5)
    have ne_r1_z0_5 : r1 ≠ z0_5 := Nat.ne_of_lt (Nat.lt_of_lt_of_le V_r1_4.lt gz0_5)
    have ne_r2_z0_5 : r2 ≠ z0_5 := Nat.ne_of_lt (Nat.lt_of_lt_of_le V_r2_4.lt gz0_5)
    have Zs5 : n0 ≤ T5.heap.size := Nat.le_trans Zs4 K5.1
    have E_o_5 := E_o_4.keep K5
    have V_r0_5 := V_r0_4.keep K5 (ninS ne_r0_o (ninS ne_r0_gA nin0))
    have V_r1_5 := V_r1_4.keep K5 (ninS ne_r1_o (ninS ne_r1_gA nin0))
    have V_r2_5 := V_r2_4.keep K5 (ninS ne_r2_o (ninS ne_r2_gA nin0))
    show Goes p e below _ (sF T5 m 123 #[iv p1, iv p2, iv p3, iv p4, iv p5, iv p6, iv (1 : Int32), iv (3 : Int32), iv ci, rv r0, rv r1, rv r2, rv o, .unset, .unset, .unset] [])
    refine Goes.step ?_ (fun _ k => XS.iload X5.here hx rfl (hb hby at_123) rfl  k)
    show Goes p e below _ (sF T5 m 125 #[iv p1, iv p2, iv p3, iv p4, iv p5, iv p6, iv (1 : Int32), iv (3 : Int32), iv ci, rv r0, rv r1, rv r2, rv o, .unset, .unset, .unset] [(.int (3 : Int32))])
    refine Goes.step ?_ (fun _ k => XS.iconst X5.here hx rfl (hb hby at_125) k)
    show Goes p e below _ (sF T5 m 126 #[iv p1, iv p2, iv p3, iv p4, iv p5, iv p6, iv (1 : Int32), iv (3 : Int32), iv ci, rv r0, rv r1, rv r2, rv o, .unset, .unset, .unset] [(.int (2 : Int32)), (.int (3 : Int32))])
    refine Goes.step ?_ (fun _ k => XS.icmpNo X5.here hx rfl (hb hby at_126) rfl (tlt (by decide : (2 : Int32) < (3 : Int32))).2.2.2 k)
    show Goes p e below _ (sF T5 m 129 #[iv p1, iv p2, iv p3, iv p4, iv p5, iv p6, iv (1 : Int32), iv (3 : Int32), iv ci, rv r0, rv r1, rv r2, rv o, .unset, .unset, .unset] [])
    refine Goes.step ?_ (fun _ k => XS.aload X5.here hx rfl (hb hby at_129) rfl rfl k)
    show Goes p e below _ (sF T5 m 131 #[iv p1, iv p2, iv p3, iv p4, iv p5, iv p6, iv (1 : Int32), iv (3 : Int32), iv ci, rv r0, rv r1, rv r2, rv o, .unset, .unset, .unset] [(.ref o)])
    refine Goes.step ?_ (fun _ k => XS.aload X5.here hx rfl (hb hby at_131) rfl rfl k)
    show Goes p e below _ (sF T5 m 133 #[iv p1, iv p2, iv p3, iv p4, iv p5, iv p6, iv (1 : Int32), iv (3 : Int32), iv ci, rv r0, rv r1, rv r2, rv o, .unset, .unset, .unset] [(.ref r2), (.ref o)])
    obtain ⟨cq6, kq6, q6a, q6b, q6c⟩ := isOf hZ rfl E_o_5
    obtain ⟨_, _, ⟨T6, L6, k6, n6⟩, -, X6, ⟨Lc6, hQ6, l6, y6, z6⟩, st6⟩ := X5.virtualBack hx (y := (⟨"com/example/clio/clio/repository/Columns", "add", "([I)V"⟩ : MethodName)) (z := (⟨"com/example/clio/clio/repository/Columns", "add", "([I)V"⟩ : MethodName)) hown (mvT hZ (hw _ (List.mem_of_getElem? (i := 38) rfl))) (mvT hZ (hw _ (List.mem_of_getElem? (i := 39) rfl))) (notFace_of_selects (args := #[]) (mvT hZ (hw _ (List.mem_of_getElem? (i := 41) rfl)))) (mvT hZ (hw _ (List.mem_of_getElem? (i := 41) rfl))) (mvT hZ (hw _ (List.mem_of_getElem? (i := 40) rfl))) (by decide) (backOf (W := 0) (rmAdd1_2 l Z a0 hw [] o r2 gA kA k2 p4 (p2 ^^^ p6) (p5 ^^^ (-1 : Int32)) z0_5 kz0_5 p2 p3 T5.heap n0 Zs5 Gc5 Gs5 E_o_5 Vg5 Ov V_r2_5 Vz0_5 Ez0_5 (Ne.symm ne_r2_o) ne_o_gA ne_o_z0_5 ne_r2_gA ne_r2_z0_5 ne_gA_z0_5 g_o g_gA g_z0_5) hZ (hw _ (List.mem_of_getElem? (i := 42) rfl)) (hw _ (List.mem_of_getElem? (i := 3) rfl)) (by decide) (by decide)) q6a q6c (g := (mkF m 133 #[iv p1, iv p2, iv p3, iv p4, iv p5, iv p6, iv (1 : Int32), iv (3 : Int32), iv ci, rv r0, rv r1, rv r2, rv o, .unset, .unset, .unset] [(.ref r2), (.ref o)])) rfl (by rw [hml]; rfl) (Steps.refl _) (argsL := [(.ref r2)]) (rest := []) (lenOf pd__28_5bI_29V rfl) rfl (by show 2 * 0 + _ ≤ _; exact Nat.le_of_eq rfl) (hb hby at_133) (fun _ _ => ⟨rfl, rfl, (by decide : 6 + 1 + 1 ≤ _), (by decide : 13 + 4 + 4 ≤ _)⟩)
    dsimp only [Pt.U, Pt.locs, Pt.cells, Pt.slots] at X6 l6 y6 z6 st6 hQ6
    subst l6 y6 z6
    obtain ⟨z0_6, kz0_6, rfl, N6q, K6, Gc6, Gs6, Vg6, Vz0_6, Ez0_6, gz0_6⟩ := hQ6
    have N6 := Fr.app N5 N6q
    refine Goes.step ?_ (fun _ k => st6.trans k)
    have g_z0_6 : n0 ≤ z0_6 := Nat.le_trans Zs5 gz0_6
    have ne_o_z0_6 : o ≠ z0_6 := Nat.ne_of_lt (Nat.lt_of_lt_of_le E_o_5.lt gz0_6)
    have ne_gA_z0_6 : gA ≠ z0_6 := Nat.ne_of_lt (Nat.lt_of_lt_of_le Vg5.lt gz0_6)
    have ne_r0_z0_6 : r0 ≠ z0_6 := Nat.ne_of_lt (Nat.lt_of_lt_of_le V_r0_5.lt gz0_6)
    have ne_r1_z0_6 : r1 ≠ z0_6 := Nat.ne_of_lt (Nat.lt_of_lt_of_le V_r1_5.lt gz0_6)
    have ne_r2_z0_6 : r2 ≠ z0_6 := Nat.ne_of_lt (Nat.lt_of_lt_of_le V_r2_5.lt gz0_6)
    have Zs6 : n0 ≤ T6.heap.size := Nat.le_trans Zs5 K6.1
    have E_o_6 := E_o_5.keep K6
    have V_r0_6 := V_r0_5.keep K6 (ninS ne_r0_o (ninS ne_r0_gA nin0))
    have V_r1_6 := V_r1_5.keep K6 (ninS ne_r1_o (ninS ne_r1_gA nin0))
    have V_r2_6 := V_r2_5.keep K6 (ninS ne_r2_o (ninS ne_r2_gA nin0))
    show Goes p e below _ (sF T6 m 136 #[iv p1, iv p2, iv p3, iv p4, iv p5, iv p6, iv (1 : Int32), iv (3 : Int32), iv ci, rv r0, rv r1, rv r2, rv o, .unset, .unset, .unset] [])
    rcases hc with rfl
    · exact tail136_3 p1 p2 p3 p4 p5 p6 (1 : Int32) 0 r0 r1 r2 k0 k1 k2 _ _ _ o gA kA _ z0_6 kz0_6 p2 p3 p4 (0 : Int32) (X6.mono (by decide) (by decide)) hx hZ hw hby hlk hret hml hown rfl N6 Zs6 Gc6 Gs6 E_o_6 Vg6 (by decide) (by decide) rfl Vz0_6 Ez0_6 V_r0_6 V_r1_6 V_r2_6 rfl rfl rfl
set_option maxRecDepth 65536 in
set_option maxHeartbeats 40000000 in
theorem tail98_2 {p : Program} {l : Launch} {e : Env} {s : State} {m : MethodId} {args : Array Value} {below : List Frame} {meth : Method} {c : Code} {T0 : State} {locs : List Loc} {Z : State} {a0 : Array Value} {h0 : Heap} {n0 : Nat} (p1 : Int32) (p2 : Int32) (p3 : Int32) (p4 : Int32) (p5 : Int32) (p6 : Int32) (nn : Int32) (ci : Int32) (r0 : Addr) (r1 : Addr) (r2 : Addr) (k0 : ClassId) (k1 : ClassId) (k2 : ClassId) (o : Addr) (gA : Addr) (kA : ClassId) (kx : ClassId) (x0 : Addr) (x1 : Addr)
    (X0 : Stand p l e room_1 s m args below meth c T0 locs (7) (15)) (hx : p.tables.exec = Jvm.exec) (hZ : Z.Warmed39 s.vm) (hw : ∀ d ∈ tables_1, d.before a0 Z = true) (hby : c.code = code) (hlk : meth.locks = false) (hret : meth.sig.returnType = some .boolean) (hml : c.maxLocals = 16) (hown : s.vm.findClass "com/example/clio/clio/repository/ColumnsColumnPinLaw" = some m.cls) (e0 : T0.heap = h0) (N0 : Fr n0 locs) (Z0 : n0 ≤ h0.size) (hnn : nn = 0 ∨ nn = 1 ∨ nn = 2 ∨ nn = 3) (hc : ci = 0 ∨ ci = 1) (F_columns : Fld Z h0 o "com/example/clio/clio/repository/Columns" "columns" "[[I" (.ref gA)) (F_size : Fld Z h0 o "com/example/clio/clio/repository/Columns" "size" "I" (.int (0 : Int32))) (E_o : Exa Z h0 o "com/example/clio/clio/repository/Columns") (V_gA : Arv Z h0 gA kA (.array .int) (2 : Int32) [(.ref x0), (.ref x1)] .null) (Ov : OvrA Z kA .int "[I") (V_x0 : Arv Z h0 x0 kx .int (1 : Int32) [(.int (0 : Int32))] (.int (0 : Int32))) (E_x0 : Exa Z h0 x0 "[I") (V_x1 : Arv Z h0 x1 kx .int (1 : Int32) [(.int (0 : Int32))] (.int (0 : Int32))) (E_x1 : Exa Z h0 x1 "[I") (V_r0 : Arv Z h0 r0 k0 .int (3 : Int32) [(.int p2), (.int p5), (.int (p3 ^^^ (-1 : Int32)))] (.int (0 : Int32))) (V_r1 : Arv Z h0 r1 k1 .int (3 : Int32) [(.int p3), (.int p6), (.int (p4 ^^^ (-1 : Int32)))] (.int (0 : Int32))) (V_r2 : Arv Z h0 r2 k2 .int (3 : Int32) [(.int p4), (.int (p2 ^^^ p6)), (.int (p5 ^^^ (-1 : Int32)))] (.int (0 : Int32))) (ne_r0_r1 : r0 ≠ r1) (ne_r0_r2 : r0 ≠ r2) (ne_r0_o : r0 ≠ o) (ne_r0_gA : r0 ≠ gA) (ne_r0_x0 : r0 ≠ x0) (ne_r0_x1 : r0 ≠ x1) (ne_r1_r2 : r1 ≠ r2) (ne_r1_o : r1 ≠ o) (ne_r1_gA : r1 ≠ gA) (ne_r1_x0 : r1 ≠ x0) (ne_r1_x1 : r1 ≠ x1) (ne_r2_o : r2 ≠ o) (ne_r2_gA : r2 ≠ gA) (ne_r2_x0 : r2 ≠ x0) (ne_r2_x1 : r2 ≠ x1) (ne_o_gA : o ≠ gA) (ne_o_x0 : o ≠ x0) (ne_o_x1 : o ≠ x1) (ne_gA_x0 : gA ≠ x0) (ne_gA_x1 : gA ≠ x1) (ne_x0_x1 : x0 ≠ x1) (g_o : n0 ≤ o) (g_gA : n0 ≤ gA) (g_x0 : n0 ≤ x0) (g_x1 : n0 ≤ x1) :
    Goes p e below (fun o U' => ∃ v L, o = .returned v ∧ Q0 n0 v U'.heap L ∧ FrameEnd s o U' L room_1.cells room_1.slots) (T0.setTop (mkF m 98 #[iv p1, iv p2, iv p3, iv p4, iv p5, iv p6, iv (2 : Int32), iv nn, iv ci, rv r0, rv r1, rv r2, rv o, .unset, .unset, .unset] [])) := by
  rcases hnn with rfl | rfl | rfl | rfl
  · show Goes p e below _ (sF T0 m 98 #[iv p1, iv p2, iv p3, iv p4, iv p5, iv p6, iv (2 : Int32), iv (0 : Int32), iv ci, rv r0, rv r1, rv r2, rv o, .unset, .unset, .unset] [])
    refine Goes.step ?_ (fun _ k => XS.iload X0.here hx rfl (hb hby at_98) rfl  k)
    show Goes p e below _ (sF T0 m 100 #[iv p1, iv p2, iv p3, iv p4, iv p5, iv p6, iv (2 : Int32), iv (0 : Int32), iv ci, rv r0, rv r1, rv r2, rv o, .unset, .unset, .unset] [(.int (0 : Int32))])
    refine Goes.step ?_ (fun _ k => XS.ifYes X0.here hx rfl (pc0 := 100) (pc' := 110) rfl (hb hby at_100) rfl ((if0 _ _).trans (flt (by decide : ¬ ((0 : Int32) < (0 : Int32)))).2.2.2) (by decide) (by decide) k)
    show Goes p e below _ (sF T0 m 110 #[iv p1, iv p2, iv p3, iv p4, iv p5, iv p6, iv (2 : Int32), iv (0 : Int32), iv ci, rv r0, rv r1, rv r2, rv o, .unset, .unset, .unset] [])
    refine Goes.step ?_ (fun _ k => XS.iload X0.here hx rfl (hb hby at_110) rfl  k)
    show Goes p e below _ (sF T0 m 112 #[iv p1, iv p2, iv p3, iv p4, iv p5, iv p6, iv (2 : Int32), iv (0 : Int32), iv ci, rv r0, rv r1, rv r2, rv o, .unset, .unset, .unset] [(.int (0 : Int32))])
    refine Goes.step ?_ (fun _ k => XS.iconst X0.here hx rfl (hb hby at_112) k)
    show Goes p e below _ (sF T0 m 113 #[iv p1, iv p2, iv p3, iv p4, iv p5, iv p6, iv (2 : Int32), iv (0 : Int32), iv ci, rv r0, rv r1, rv r2, rv o, .unset, .unset, .unset] [(.int (1 : Int32)), (.int (0 : Int32))])
    refine Goes.step ?_ (fun _ k => XS.icmpYes X0.here hx rfl (pc0 := 113) (pc' := 123) rfl (hb hby at_113) rfl (flt (by decide : ¬ ((1 : Int32) < (0 : Int32)))).2.2.2 (by decide) (by decide) k)
    show Goes p e below _ (sF T0 m 123 #[iv p1, iv p2, iv p3, iv p4, iv p5, iv p6, iv (2 : Int32), iv (0 : Int32), iv ci, rv r0, rv r1, rv r2, rv o, .unset, .unset, .unset] [])
    refine Goes.step ?_ (fun _ k => XS.iload X0.here hx rfl (hb hby at_123) rfl  k)
    show Goes p e below _ (sF T0 m 125 #[iv p1, iv p2, iv p3, iv p4, iv p5, iv p6, iv (2 : Int32), iv (0 : Int32), iv ci, rv r0, rv r1, rv r2, rv o, .unset, .unset, .unset] [(.int (0 : Int32))])
    refine Goes.step ?_ (fun _ k => XS.iconst X0.here hx rfl (hb hby at_125) k)
    show Goes p e below _ (sF T0 m 126 #[iv p1, iv p2, iv p3, iv p4, iv p5, iv p6, iv (2 : Int32), iv (0 : Int32), iv ci, rv r0, rv r1, rv r2, rv o, .unset, .unset, .unset] [(.int (2 : Int32)), (.int (0 : Int32))])
    refine Goes.step ?_ (fun _ k => XS.icmpYes X0.here hx rfl (pc0 := 126) (pc' := 136) rfl (hb hby at_126) rfl (flt (by decide : ¬ ((2 : Int32) < (0 : Int32)))).2.2.2 (by decide) (by decide) k)
    show Goes p e below _ (sF T0 m 136 #[iv p1, iv p2, iv p3, iv p4, iv p5, iv p6, iv (2 : Int32), iv (0 : Int32), iv ci, rv r0, rv r1, rv r2, rv o, .unset, .unset, .unset] [])
    rcases hc with rfl | rfl
    · exact tail136_0 p1 p2 p3 p4 p5 p6 (2 : Int32) 0 r0 r1 r2 k0 k1 k2 _ _ _ o gA kA _ x0 kx p2 p3 p4 (0 : Int32) (X0.mono (by decide) (by decide)) hx hZ hw hby hlk hret hml hown e0 N0 Z0 F_columns F_size E_o V_gA (by decide) (by decide) rfl V_x0 E_x0 V_r0 V_r1 V_r2 rfl rfl rfl
    · exact tail136_0 p1 p2 p3 p4 p5 p6 (2 : Int32) 1 r0 r1 r2 k0 k1 k2 _ _ _ o gA kA _ x1 kx p5 p6 (p2 ^^^ p6) (0 : Int32) (X0.mono (by decide) (by decide)) hx hZ hw hby hlk hret hml hown e0 N0 Z0 F_columns F_size E_o V_gA (by decide) (by decide) rfl V_x1 E_x1 V_r0 V_r1 V_r2 rfl rfl rfl
  · show Goes p e below _ (sF T0 m 98 #[iv p1, iv p2, iv p3, iv p4, iv p5, iv p6, iv (2 : Int32), iv (1 : Int32), iv ci, rv r0, rv r1, rv r2, rv o, .unset, .unset, .unset] [])
    refine Goes.step ?_ (fun _ k => XS.iload X0.here hx rfl (hb hby at_98) rfl  k)
    show Goes p e below _ (sF T0 m 100 #[iv p1, iv p2, iv p3, iv p4, iv p5, iv p6, iv (2 : Int32), iv (1 : Int32), iv ci, rv r0, rv r1, rv r2, rv o, .unset, .unset, .unset] [(.int (1 : Int32))])
    refine Goes.step ?_ (fun _ k => XS.ifNo X0.here hx rfl (hb hby at_100) rfl ((if0 _ _).trans (tlt (by decide : (0 : Int32) < (1 : Int32))).2.2.2) k)
    show Goes p e below _ (sF T0 m 103 #[iv p1, iv p2, iv p3, iv p4, iv p5, iv p6, iv (2 : Int32), iv (1 : Int32), iv ci, rv r0, rv r1, rv r2, rv o, .unset, .unset, .unset] [])
    refine Goes.step ?_ (fun _ k => XS.aload X0.here hx rfl (hb hby at_103) rfl rfl k)
    show Goes p e below _ (sF T0 m 105 #[iv p1, iv p2, iv p3, iv p4, iv p5, iv p6, iv (2 : Int32), iv (1 : Int32), iv ci, rv r0, rv r1, rv r2, rv o, .unset, .unset, .unset] [(.ref o)])
    refine Goes.step ?_ (fun _ k => XS.aload X0.here hx rfl (hb hby at_105) rfl rfl k)
    show Goes p e below _ (sF T0 m 107 #[iv p1, iv p2, iv p3, iv p4, iv p5, iv p6, iv (2 : Int32), iv (1 : Int32), iv ci, rv r0, rv r1, rv r2, rv o, .unset, .unset, .unset] [(.ref r0), (.ref o)])
    obtain ⟨cq1, kq1, q1a, q1b, q1c⟩ := isOf hZ e0 E_o
    obtain ⟨_, _, ⟨T1, L1, k1, n1⟩, -, X1, ⟨Lc1, hQ1, l1, y1, z1⟩, st1⟩ := X0.virtualBack hx (y := (⟨"com/example/clio/clio/repository/Columns", "add", "([I)V"⟩ : MethodName)) (z := (⟨"com/example/clio/clio/repository/Columns", "add", "([I)V"⟩ : MethodName)) hown (mvT hZ (hw _ (List.mem_of_getElem? (i := 38) rfl))) (mvT hZ (hw _ (List.mem_of_getElem? (i := 39) rfl))) (notFace_of_selects (args := #[]) (mvT hZ (hw _ (List.mem_of_getElem? (i := 41) rfl)))) (mvT hZ (hw _ (List.mem_of_getElem? (i := 41) rfl))) (mvT hZ (hw _ (List.mem_of_getElem? (i := 40) rfl))) (by decide) (backOf (W := 0) (rmAdd2_0 l Z a0 hw [] o r0 gA kA k0 p2 p5 (p3 ^^^ (-1 : Int32)) x0 x1 kx kx (0 : Int32) (0 : Int32) h0 n0 Z0 F_columns F_size E_o V_gA Ov V_r0 V_x0 E_x0 V_x1 E_x1 (Ne.symm ne_r0_o) ne_o_gA ne_o_x0 ne_o_x1 ne_r0_gA ne_r0_x0 ne_r0_x1 ne_gA_x0 ne_gA_x1 ne_x0_x1 g_o g_gA g_x0 g_x1) hZ (hw _ (List.mem_of_getElem? (i := 42) rfl)) (hw _ (List.mem_of_getElem? (i := 3) rfl)) (by decide) (by decide)) q1a q1c (g := (mkF m 107 #[iv p1, iv p2, iv p3, iv p4, iv p5, iv p6, iv (2 : Int32), iv (1 : Int32), iv ci, rv r0, rv r1, rv r2, rv o, .unset, .unset, .unset] [(.ref r0), (.ref o)])) rfl (by rw [hml]; rfl) (Steps.refl _) (argsL := [(.ref r0)]) (rest := []) (lenOf pd__28_5bI_29V rfl) rfl (by show 2 * 0 + _ ≤ _; exact Nat.le_of_eq rfl) (hb hby at_107) (fun _ _ => ⟨rfl, e0, (by decide : 7 + 0 ≤ _), (by decide : 15 + 0 ≤ _)⟩)
    dsimp only [Pt.U, Pt.locs, Pt.cells, Pt.slots] at X1 l1 y1 z1 st1 hQ1
    subst l1 y1 z1
    obtain ⟨rfl, N1q, K1, Gc1, Gs1, Vg1, Vz0_1, Ez0_1, Vz1_1, Ez1_1⟩ := hQ1
    have N1 := Fr.app N0 N1q
    refine Goes.step ?_ (fun _ k => st1.trans k)
    have Zs1 : n0 ≤ T1.heap.size := Nat.le_trans Z0 K1.1
    have E_o_1 := E_o.keep K1
    have V_r0_1 := V_r0.keep K1 (ninS ne_r0_o (ninS ne_r0_x0 (ninS ne_r0_x1 nin0)))
    have V_r1_1 := V_r1.keep K1 (ninS ne_r1_o (ninS ne_r1_x0 (ninS ne_r1_x1 nin0)))
    have V_r2_1 := V_r2.keep K1 (ninS ne_r2_o (ninS ne_r2_x0 (ninS ne_r2_x1 nin0)))
    show Goes p e below _ (sF T1 m 110 #[iv p1, iv p2, iv p3, iv p4, iv p5, iv p6, iv (2 : Int32), iv (1 : Int32), iv ci, rv r0, rv r1, rv r2, rv o, .unset, .unset, .unset] [])
    refine Goes.step ?_ (fun _ k => XS.iload X1.here hx rfl (hb hby at_110) rfl  k)
    show Goes p e below _ (sF T1 m 112 #[iv p1, iv p2, iv p3, iv p4, iv p5, iv p6, iv (2 : Int32), iv (1 : Int32), iv ci, rv r0, rv r1, rv r2, rv o, .unset, .unset, .unset] [(.int (1 : Int32))])
    refine Goes.step ?_ (fun _ k => XS.iconst X1.here hx rfl (hb hby at_112) k)
    show Goes p e below _ (sF T1 m 113 #[iv p1, iv p2, iv p3, iv p4, iv p5, iv p6, iv (2 : Int32), iv (1 : Int32), iv ci, rv r0, rv r1, rv r2, rv o, .unset, .unset, .unset] [(.int (1 : Int32)), (.int (1 : Int32))])
    refine Goes.step ?_ (fun _ k => XS.icmpYes X1.here hx rfl (pc0 := 113) (pc' := 123) rfl (hb hby at_113) rfl (flt (by decide : ¬ ((1 : Int32) < (1 : Int32)))).2.2.2 (by decide) (by decide) k)
    show Goes p e below _ (sF T1 m 123 #[iv p1, iv p2, iv p3, iv p4, iv p5, iv p6, iv (2 : Int32), iv (1 : Int32), iv ci, rv r0, rv r1, rv r2, rv o, .unset, .unset, .unset] [])
    refine Goes.step ?_ (fun _ k => XS.iload X1.here hx rfl (hb hby at_123) rfl  k)
    show Goes p e below _ (sF T1 m 125 #[iv p1, iv p2, iv p3, iv p4, iv p5, iv p6, iv (2 : Int32), iv (1 : Int32), iv ci, rv r0, rv r1, rv r2, rv o, .unset, .unset, .unset] [(.int (1 : Int32))])
    refine Goes.step ?_ (fun _ k => XS.iconst X1.here hx rfl (hb hby at_125) k)
    show Goes p e below _ (sF T1 m 126 #[iv p1, iv p2, iv p3, iv p4, iv p5, iv p6, iv (2 : Int32), iv (1 : Int32), iv ci, rv r0, rv r1, rv r2, rv o, .unset, .unset, .unset] [(.int (2 : Int32)), (.int (1 : Int32))])
    refine Goes.step ?_ (fun _ k => XS.icmpYes X1.here hx rfl (pc0 := 126) (pc' := 136) rfl (hb hby at_126) rfl (flt (by decide : ¬ ((2 : Int32) < (1 : Int32)))).2.2.2 (by decide) (by decide) k)
    show Goes p e below _ (sF T1 m 136 #[iv p1, iv p2, iv p3, iv p4, iv p5, iv p6, iv (2 : Int32), iv (1 : Int32), iv ci, rv r0, rv r1, rv r2, rv o, .unset, .unset, .unset] [])
    rcases hc with rfl | rfl
    · exact tail136_1 p1 p2 p3 p4 p5 p6 (2 : Int32) 0 r0 r1 r2 k0 k1 k2 _ _ _ o gA kA _ x0 kx p2 p3 p4  (X1.mono (by decide) (by decide)) hx hZ hw hby hlk hret hml hown rfl N1 Zs1 Gc1 Gs1 E_o_1 Vg1 (by decide) (by decide) rfl Vz0_1 Ez0_1 V_r0_1 V_r1_1 V_r2_1 rfl rfl rfl
    · exact tail136_1 p1 p2 p3 p4 p5 p6 (2 : Int32) 1 r0 r1 r2 k0 k1 k2 _ _ _ o gA kA _ x1 kx p5 p6 (p2 ^^^ p6)  (X1.mono (by decide) (by decide)) hx hZ hw hby hlk hret hml hown rfl N1 Zs1 Gc1 Gs1 E_o_1 Vg1 (by decide) (by decide) rfl Vz1_1 Ez1_1 V_r0_1 V_r1_1 V_r2_1 rfl rfl rfl
  · show Goes p e below _ (sF T0 m 98 #[iv p1, iv p2, iv p3, iv p4, iv p5, iv p6, iv (2 : Int32), iv (2 : Int32), iv ci, rv r0, rv r1, rv r2, rv o, .unset, .unset, .unset] [])
    refine Goes.step ?_ (fun _ k => XS.iload X0.here hx rfl (hb hby at_98) rfl  k)
    show Goes p e below _ (sF T0 m 100 #[iv p1, iv p2, iv p3, iv p4, iv p5, iv p6, iv (2 : Int32), iv (2 : Int32), iv ci, rv r0, rv r1, rv r2, rv o, .unset, .unset, .unset] [(.int (2 : Int32))])
    refine Goes.step ?_ (fun _ k => XS.ifNo X0.here hx rfl (hb hby at_100) rfl ((if0 _ _).trans (tlt (by decide : (0 : Int32) < (2 : Int32))).2.2.2) k)
    show Goes p e below _ (sF T0 m 103 #[iv p1, iv p2, iv p3, iv p4, iv p5, iv p6, iv (2 : Int32), iv (2 : Int32), iv ci, rv r0, rv r1, rv r2, rv o, .unset, .unset, .unset] [])
    refine Goes.step ?_ (fun _ k => XS.aload X0.here hx rfl (hb hby at_103) rfl rfl k)
    show Goes p e below _ (sF T0 m 105 #[iv p1, iv p2, iv p3, iv p4, iv p5, iv p6, iv (2 : Int32), iv (2 : Int32), iv ci, rv r0, rv r1, rv r2, rv o, .unset, .unset, .unset] [(.ref o)])
    refine Goes.step ?_ (fun _ k => XS.aload X0.here hx rfl (hb hby at_105) rfl rfl k)
    show Goes p e below _ (sF T0 m 107 #[iv p1, iv p2, iv p3, iv p4, iv p5, iv p6, iv (2 : Int32), iv (2 : Int32), iv ci, rv r0, rv r1, rv r2, rv o, .unset, .unset, .unset] [(.ref r0), (.ref o)])
    obtain ⟨cq2, kq2, q2a, q2b, q2c⟩ := isOf hZ e0 E_o
    obtain ⟨_, _, ⟨T2, L2, k2, n2⟩, -, X2, ⟨Lc2, hQ2, l2, y2, z2⟩, st2⟩ := X0.virtualBack hx (y := (⟨"com/example/clio/clio/repository/Columns", "add", "([I)V"⟩ : MethodName)) (z := (⟨"com/example/clio/clio/repository/Columns", "add", "([I)V"⟩ : MethodName)) hown (mvT hZ (hw _ (List.mem_of_getElem? (i := 38) rfl))) (mvT hZ (hw _ (List.mem_of_getElem? (i := 39) rfl))) (notFace_of_selects (args := #[]) (mvT hZ (hw _ (List.mem_of_getElem? (i := 41) rfl)))) (mvT hZ (hw _ (List.mem_of_getElem? (i := 41) rfl))) (mvT hZ (hw _ (List.mem_of_getElem? (i := 40) rfl))) (by decide) (backOf (W := 0) (rmAdd2_0 l Z a0 hw [] o r0 gA kA k0 p2 p5 (p3 ^^^ (-1 : Int32)) x0 x1 kx kx (0 : Int32) (0 : Int32) h0 n0 Z0 F_columns F_size E_o V_gA Ov V_r0 V_x0 E_x0 V_x1 E_x1 (Ne.symm ne_r0_o) ne_o_gA ne_o_x0 ne_o_x1 ne_r0_gA ne_r0_x0 ne_r0_x1 ne_gA_x0 ne_gA_x1 ne_x0_x1 g_o g_gA g_x0 g_x1) hZ (hw _ (List.mem_of_getElem? (i := 42) rfl)) (hw _ (List.mem_of_getElem? (i := 3) rfl)) (by decide) (by decide)) q2a q2c (g := (mkF m 107 #[iv p1, iv p2, iv p3, iv p4, iv p5, iv p6, iv (2 : Int32), iv (2 : Int32), iv ci, rv r0, rv r1, rv r2, rv o, .unset, .unset, .unset] [(.ref r0), (.ref o)])) rfl (by rw [hml]; rfl) (Steps.refl _) (argsL := [(.ref r0)]) (rest := []) (lenOf pd__28_5bI_29V rfl) rfl (by show 2 * 0 + _ ≤ _; exact Nat.le_of_eq rfl) (hb hby at_107) (fun _ _ => ⟨rfl, e0, (by decide : 7 + 0 ≤ _), (by decide : 15 + 0 ≤ _)⟩)
    dsimp only [Pt.U, Pt.locs, Pt.cells, Pt.slots] at X2 l2 y2 z2 st2 hQ2
    subst l2 y2 z2
    obtain ⟨rfl, N2q, K2, Gc2, Gs2, Vg2, Vz0_2, Ez0_2, Vz1_2, Ez1_2⟩ := hQ2
    have N2 := Fr.app N0 N2q
    refine Goes.step ?_ (fun _ k => st2.trans k)
    have Zs2 : n0 ≤ T2.heap.size := Nat.le_trans Z0 K2.1
    have E_o_2 := E_o.keep K2
    have V_r0_2 := V_r0.keep K2 (ninS ne_r0_o (ninS ne_r0_x0 (ninS ne_r0_x1 nin0)))
    have V_r1_2 := V_r1.keep K2 (ninS ne_r1_o (ninS ne_r1_x0 (ninS ne_r1_x1 nin0)))
    have V_r2_2 := V_r2.keep K2 (ninS ne_r2_o (ninS ne_r2_x0 (ninS ne_r2_x1 nin0)))
    show Goes p e below _ (sF T2 m 110 #[iv p1, iv p2, iv p3, iv p4, iv p5, iv p6, iv (2 : Int32), iv (2 : Int32), iv ci, rv r0, rv r1, rv r2, rv o, .unset, .unset, .unset] [])
    refine Goes.step ?_ (fun _ k => XS.iload X2.here hx rfl (hb hby at_110) rfl  k)
    show Goes p e below _ (sF T2 m 112 #[iv p1, iv p2, iv p3, iv p4, iv p5, iv p6, iv (2 : Int32), iv (2 : Int32), iv ci, rv r0, rv r1, rv r2, rv o, .unset, .unset, .unset] [(.int (2 : Int32))])
    refine Goes.step ?_ (fun _ k => XS.iconst X2.here hx rfl (hb hby at_112) k)
    show Goes p e below _ (sF T2 m 113 #[iv p1, iv p2, iv p3, iv p4, iv p5, iv p6, iv (2 : Int32), iv (2 : Int32), iv ci, rv r0, rv r1, rv r2, rv o, .unset, .unset, .unset] [(.int (1 : Int32)), (.int (2 : Int32))])
    refine Goes.step ?_ (fun _ k => XS.icmpNo X2.here hx rfl (hb hby at_113) rfl (tlt (by decide : (1 : Int32) < (2 : Int32))).2.2.2 k)
    show Goes p e below _ (sF T2 m 116 #[iv p1, iv p2, iv p3, iv p4, iv p5, iv p6, iv (2 : Int32), iv (2 : Int32), iv ci, rv r0, rv r1, rv r2, rv o, .unset, .unset, .unset] [])
    refine Goes.step ?_ (fun _ k => XS.aload X2.here hx rfl (hb hby at_116) rfl rfl k)
    show Goes p e below _ (sF T2 m 118 #[iv p1, iv p2, iv p3, iv p4, iv p5, iv p6, iv (2 : Int32), iv (2 : Int32), iv ci, rv r0, rv r1, rv r2, rv o, .unset, .unset, .unset] [(.ref o)])
    refine Goes.step ?_ (fun _ k => XS.aload X2.here hx rfl (hb hby at_118) rfl rfl k)
    show Goes p e below _ (sF T2 m 120 #[iv p1, iv p2, iv p3, iv p4, iv p5, iv p6, iv (2 : Int32), iv (2 : Int32), iv ci, rv r0, rv r1, rv r2, rv o, .unset, .unset, .unset] [(.ref r1), (.ref o)])
    obtain ⟨cq3, kq3, q3a, q3b, q3c⟩ := isOf hZ rfl E_o_2
    obtain ⟨_, _, ⟨T3, L3, k3, n3⟩, -, X3, ⟨Lc3, hQ3, l3, y3, z3⟩, st3⟩ := X2.virtualBack hx (y := (⟨"com/example/clio/clio/repository/Columns", "add", "([I)V"⟩ : MethodName)) (z := (⟨"com/example/clio/clio/repository/Columns", "add", "([I)V"⟩ : MethodName)) hown (mvT hZ (hw _ (List.mem_of_getElem? (i := 38) rfl))) (mvT hZ (hw _ (List.mem_of_getElem? (i := 39) rfl))) (notFace_of_selects (args := #[]) (mvT hZ (hw _ (List.mem_of_getElem? (i := 41) rfl)))) (mvT hZ (hw _ (List.mem_of_getElem? (i := 41) rfl))) (mvT hZ (hw _ (List.mem_of_getElem? (i := 40) rfl))) (by decide) (backOf (W := 0) (rmAdd2_1 l Z a0 hw [] o r1 gA kA k1 p3 p6 (p4 ^^^ (-1 : Int32)) x0 x1 kx kx p2 p5 T2.heap n0 Zs2 Gc2 Gs2 E_o_2 Vg2 Ov V_r1_2 Vz0_2 Ez0_2 Vz1_2 Ez1_2 (Ne.symm ne_r1_o) ne_o_gA ne_o_x0 ne_o_x1 ne_r1_gA ne_r1_x0 ne_r1_x1 ne_gA_x0 ne_gA_x1 ne_x0_x1 g_o g_gA g_x0 g_x1) hZ (hw _ (List.mem_of_getElem? (i := 42) rfl)) (hw _ (List.mem_of_getElem? (i := 3) rfl)) (by decide) (by decide)) q3a q3c (g := (mkF m 120 #[iv p1, iv p2, iv p3, iv p4, iv p5, iv p6, iv (2 : Int32), iv (2 : Int32), iv ci, rv r0, rv r1, rv r2, rv o, .unset, .unset, .unset] [(.ref r1), (.ref o)])) rfl (by rw [hml]; rfl) (Steps.refl _) (argsL := [(.ref r1)]) (rest := []) (lenOf pd__28_5bI_29V rfl) rfl (by show 2 * 0 + _ ≤ _; exact Nat.le_of_eq rfl) (hb hby at_120) (fun _ _ => ⟨rfl, rfl, (by decide : 7 + 2 ≤ _), (by decide : 15 + 8 ≤ _)⟩)
    dsimp only [Pt.U, Pt.locs, Pt.cells, Pt.slots] at X3 l3 y3 z3 st3 hQ3
    subst l3 y3 z3
    obtain ⟨z0_3, z1_3, kz0_3, kz1_3, rfl, N3q, K3, Gc3, Gs3, Vg3, Vz0_3, Ez0_3, Vz1_3, Ez1_3, gz0_3, gz1_3, ne_z0_3_z1_3⟩ := hQ3
    have N3 := Fr.app N2 N3q
    refine Goes.step ?_ (fun _ k => st3.trans k)
    have g_z0_3 : n0 ≤ z0_3 := Nat.le_trans Zs2 gz0_3
    have ne_o_z0_3 : o ≠ z0_3 := Nat.ne_of_lt (Nat.lt_of_lt_of_le E_o_2.lt gz0_3)
    have ne_gA_z0_3 : gA ≠ z0_3 := Nat.ne_of_lt (Nat.lt_of_lt_of_le Vg2.lt gz0_3)
    have ne_r0_z0_3 : r0 ≠ z0_3 := Nat.ne_of_lt (Nat.lt_of_lt_of_le V_r0_2.lt gz0_3)
    have ne_r1_z0_3 : r1 ≠ z0_3 := Nat.ne_of_lt (Nat.lt_of_lt_of_le V_r1_2.lt gz0_3)
    have ne_r2_z0_3 : r2 ≠ z0_3 := Nat.ne_of_lt (Nat.lt_of_lt_of_le V_r2_2.lt gz0_3)
    have g_z1_3 : n0 ≤ z1_3 := Nat.le_trans Zs2 gz1_3
    have ne_o_z1_3 : o ≠ z1_3 := Nat.ne_of_lt (Nat.lt_of_lt_of_le E_o_2.lt gz1_3)
    have ne_gA_z1_3 : gA ≠ z1_3 := Nat.ne_of_lt (Nat.lt_of_lt_of_le Vg2.lt gz1_3)
    have ne_r0_z1_3 : r0 ≠ z1_3 := Nat.ne_of_lt (Nat.lt_of_lt_of_le V_r0_2.lt gz1_3)
    have ne_r1_z1_3 : r1 ≠ z1_3 := Nat.ne_of_lt (Nat.lt_of_lt_of_le V_r1_2.lt gz1_3)
    have ne_r2_z1_3 : r2 ≠ z1_3 := Nat.ne_of_lt (Nat.lt_of_lt_of_le V_r2_2.lt gz1_3)
    have Zs3 : n0 ≤ T3.heap.size := Nat.le_trans Zs2 K3.1
    have E_o_3 := E_o_2.keep K3
    have V_r0_3 := V_r0_2.keep K3 (ninS ne_r0_o (ninS ne_r0_gA nin0))
    have V_r1_3 := V_r1_2.keep K3 (ninS ne_r1_o (ninS ne_r1_gA nin0))
    have V_r2_3 := V_r2_2.keep K3 (ninS ne_r2_o (ninS ne_r2_gA nin0))
    show Goes p e below _ (sF T3 m 123 #[iv p1, iv p2, iv p3, iv p4, iv p5, iv p6, iv (2 : Int32), iv (2 : Int32), iv ci, rv r0, rv r1, rv r2, rv o, .unset, .unset, .unset] [])
    refine Goes.step ?_ (fun _ k => XS.iload X3.here hx rfl (hb hby at_123) rfl  k)
    show Goes p e below _ (sF T3 m 125 #[iv p1, iv p2, iv p3, iv p4, iv p5, iv p6, iv (2 : Int32), iv (2 : Int32), iv ci, rv r0, rv r1, rv r2, rv o, .unset, .unset, .unset] [(.int (2 : Int32))])
    refine Goes.step ?_ (fun _ k => XS.iconst X3.here hx rfl (hb hby at_125) k)
    show Goes p e below _ (sF T3 m 126 #[iv p1, iv p2, iv p3, iv p4, iv p5, iv p6, iv (2 : Int32), iv (2 : Int32), iv ci, rv r0, rv r1, rv r2, rv o, .unset, .unset, .unset] [(.int (2 : Int32)), (.int (2 : Int32))])
    refine Goes.step ?_ (fun _ k => XS.icmpYes X3.here hx rfl (pc0 := 126) (pc' := 136) rfl (hb hby at_126) rfl (flt (by decide : ¬ ((2 : Int32) < (2 : Int32)))).2.2.2 (by decide) (by decide) k)
    show Goes p e below _ (sF T3 m 136 #[iv p1, iv p2, iv p3, iv p4, iv p5, iv p6, iv (2 : Int32), iv (2 : Int32), iv ci, rv r0, rv r1, rv r2, rv o, .unset, .unset, .unset] [])
    rcases hc with rfl | rfl
    · exact tail136_2 p1 p2 p3 p4 p5 p6 (2 : Int32) 0 r0 r1 r2 k0 k1 k2 _ _ _ o gA kA _ z0_3 kz0_3 p2 p3 p4  (X3.mono (by decide) (by decide)) hx hZ hw hby hlk hret hml hown rfl N3 Zs3 Gc3 Gs3 E_o_3 Vg3 (by decide) (by decide) rfl Vz0_3 Ez0_3 V_r0_3 V_r1_3 V_r2_3 rfl rfl rfl
    · exact tail136_2 p1 p2 p3 p4 p5 p6 (2 : Int32) 1 r0 r1 r2 k0 k1 k2 _ _ _ o gA kA _ z1_3 kz1_3 p5 p6 (p2 ^^^ p6)  (X3.mono (by decide) (by decide)) hx hZ hw hby hlk hret hml hown rfl N3 Zs3 Gc3 Gs3 E_o_3 Vg3 (by decide) (by decide) rfl Vz1_3 Ez1_3 V_r0_3 V_r1_3 V_r2_3 rfl rfl rfl
  · show Goes p e below _ (sF T0 m 98 #[iv p1, iv p2, iv p3, iv p4, iv p5, iv p6, iv (2 : Int32), iv (3 : Int32), iv ci, rv r0, rv r1, rv r2, rv o, .unset, .unset, .unset] [])
    refine Goes.step ?_ (fun _ k => XS.iload X0.here hx rfl (hb hby at_98) rfl  k)
    show Goes p e below _ (sF T0 m 100 #[iv p1, iv p2, iv p3, iv p4, iv p5, iv p6, iv (2 : Int32), iv (3 : Int32), iv ci, rv r0, rv r1, rv r2, rv o, .unset, .unset, .unset] [(.int (3 : Int32))])
    refine Goes.step ?_ (fun _ k => XS.ifNo X0.here hx rfl (hb hby at_100) rfl ((if0 _ _).trans (tlt (by decide : (0 : Int32) < (3 : Int32))).2.2.2) k)
    show Goes p e below _ (sF T0 m 103 #[iv p1, iv p2, iv p3, iv p4, iv p5, iv p6, iv (2 : Int32), iv (3 : Int32), iv ci, rv r0, rv r1, rv r2, rv o, .unset, .unset, .unset] [])
    refine Goes.step ?_ (fun _ k => XS.aload X0.here hx rfl (hb hby at_103) rfl rfl k)
    show Goes p e below _ (sF T0 m 105 #[iv p1, iv p2, iv p3, iv p4, iv p5, iv p6, iv (2 : Int32), iv (3 : Int32), iv ci, rv r0, rv r1, rv r2, rv o, .unset, .unset, .unset] [(.ref o)])
    refine Goes.step ?_ (fun _ k => XS.aload X0.here hx rfl (hb hby at_105) rfl rfl k)
    show Goes p e below _ (sF T0 m 107 #[iv p1, iv p2, iv p3, iv p4, iv p5, iv p6, iv (2 : Int32), iv (3 : Int32), iv ci, rv r0, rv r1, rv r2, rv o, .unset, .unset, .unset] [(.ref r0), (.ref o)])
    obtain ⟨cq4, kq4, q4a, q4b, q4c⟩ := isOf hZ e0 E_o
    obtain ⟨_, _, ⟨T4, L4, k4, n4⟩, -, X4, ⟨Lc4, hQ4, l4, y4, z4⟩, st4⟩ := X0.virtualBack hx (y := (⟨"com/example/clio/clio/repository/Columns", "add", "([I)V"⟩ : MethodName)) (z := (⟨"com/example/clio/clio/repository/Columns", "add", "([I)V"⟩ : MethodName)) hown (mvT hZ (hw _ (List.mem_of_getElem? (i := 38) rfl))) (mvT hZ (hw _ (List.mem_of_getElem? (i := 39) rfl))) (notFace_of_selects (args := #[]) (mvT hZ (hw _ (List.mem_of_getElem? (i := 41) rfl)))) (mvT hZ (hw _ (List.mem_of_getElem? (i := 41) rfl))) (mvT hZ (hw _ (List.mem_of_getElem? (i := 40) rfl))) (by decide) (backOf (W := 0) (rmAdd2_0 l Z a0 hw [] o r0 gA kA k0 p2 p5 (p3 ^^^ (-1 : Int32)) x0 x1 kx kx (0 : Int32) (0 : Int32) h0 n0 Z0 F_columns F_size E_o V_gA Ov V_r0 V_x0 E_x0 V_x1 E_x1 (Ne.symm ne_r0_o) ne_o_gA ne_o_x0 ne_o_x1 ne_r0_gA ne_r0_x0 ne_r0_x1 ne_gA_x0 ne_gA_x1 ne_x0_x1 g_o g_gA g_x0 g_x1) hZ (hw _ (List.mem_of_getElem? (i := 42) rfl)) (hw _ (List.mem_of_getElem? (i := 3) rfl)) (by decide) (by decide)) q4a q4c (g := (mkF m 107 #[iv p1, iv p2, iv p3, iv p4, iv p5, iv p6, iv (2 : Int32), iv (3 : Int32), iv ci, rv r0, rv r1, rv r2, rv o, .unset, .unset, .unset] [(.ref r0), (.ref o)])) rfl (by rw [hml]; rfl) (Steps.refl _) (argsL := [(.ref r0)]) (rest := []) (lenOf pd__28_5bI_29V rfl) rfl (by show 2 * 0 + _ ≤ _; exact Nat.le_of_eq rfl) (hb hby at_107) (fun _ _ => ⟨rfl, e0, (by decide : 7 + 0 ≤ _), (by decide : 15 + 0 ≤ _)⟩)
    dsimp only [Pt.U, Pt.locs, Pt.cells, Pt.slots] at X4 l4 y4 z4 st4 hQ4
    subst l4 y4 z4
    obtain ⟨rfl, N4q, K4, Gc4, Gs4, Vg4, Vz0_4, Ez0_4, Vz1_4, Ez1_4⟩ := hQ4
    have N4 := Fr.app N0 N4q
    refine Goes.step ?_ (fun _ k => st4.trans k)
    have Zs4 : n0 ≤ T4.heap.size := Nat.le_trans Z0 K4.1
    have E_o_4 := E_o.keep K4
    have V_r0_4 := V_r0.keep K4 (ninS ne_r0_o (ninS ne_r0_x0 (ninS ne_r0_x1 nin0)))
    have V_r1_4 := V_r1.keep K4 (ninS ne_r1_o (ninS ne_r1_x0 (ninS ne_r1_x1 nin0)))
    have V_r2_4 := V_r2.keep K4 (ninS ne_r2_o (ninS ne_r2_x0 (ninS ne_r2_x1 nin0)))
    show Goes p e below _ (sF T4 m 110 #[iv p1, iv p2, iv p3, iv p4, iv p5, iv p6, iv (2 : Int32), iv (3 : Int32), iv ci, rv r0, rv r1, rv r2, rv o, .unset, .unset, .unset] [])
    refine Goes.step ?_ (fun _ k => XS.iload X4.here hx rfl (hb hby at_110) rfl  k)
    show Goes p e below _ (sF T4 m 112 #[iv p1, iv p2, iv p3, iv p4, iv p5, iv p6, iv (2 : Int32), iv (3 : Int32), iv ci, rv r0, rv r1, rv r2, rv o, .unset, .unset, .unset] [(.int (3 : Int32))])
    refine Goes.step ?_ (fun _ k => XS.iconst X4.here hx rfl (hb hby at_112) k)
    show Goes p e below _ (sF T4 m 113 #[iv p1, iv p2, iv p3, iv p4, iv p5, iv p6, iv (2 : Int32), iv (3 : Int32), iv ci, rv r0, rv r1, rv r2, rv o, .unset, .unset, .unset] [(.int (1 : Int32)), (.int (3 : Int32))])
    refine Goes.step ?_ (fun _ k => XS.icmpNo X4.here hx rfl (hb hby at_113) rfl (tlt (by decide : (1 : Int32) < (3 : Int32))).2.2.2 k)
    show Goes p e below _ (sF T4 m 116 #[iv p1, iv p2, iv p3, iv p4, iv p5, iv p6, iv (2 : Int32), iv (3 : Int32), iv ci, rv r0, rv r1, rv r2, rv o, .unset, .unset, .unset] [])
    refine Goes.step ?_ (fun _ k => XS.aload X4.here hx rfl (hb hby at_116) rfl rfl k)
    show Goes p e below _ (sF T4 m 118 #[iv p1, iv p2, iv p3, iv p4, iv p5, iv p6, iv (2 : Int32), iv (3 : Int32), iv ci, rv r0, rv r1, rv r2, rv o, .unset, .unset, .unset] [(.ref o)])
    refine Goes.step ?_ (fun _ k => XS.aload X4.here hx rfl (hb hby at_118) rfl rfl k)
    show Goes p e below _ (sF T4 m 120 #[iv p1, iv p2, iv p3, iv p4, iv p5, iv p6, iv (2 : Int32), iv (3 : Int32), iv ci, rv r0, rv r1, rv r2, rv o, .unset, .unset, .unset] [(.ref r1), (.ref o)])
    obtain ⟨cq5, kq5, q5a, q5b, q5c⟩ := isOf hZ rfl E_o_4
    obtain ⟨_, _, ⟨T5, L5, k5, n5⟩, -, X5, ⟨Lc5, hQ5, l5, y5, z5⟩, st5⟩ := X4.virtualBack hx (y := (⟨"com/example/clio/clio/repository/Columns", "add", "([I)V"⟩ : MethodName)) (z := (⟨"com/example/clio/clio/repository/Columns", "add", "([I)V"⟩ : MethodName)) hown (mvT hZ (hw _ (List.mem_of_getElem? (i := 38) rfl))) (mvT hZ (hw _ (List.mem_of_getElem? (i := 39) rfl))) (notFace_of_selects (args := #[]) (mvT hZ (hw _ (List.mem_of_getElem? (i := 41) rfl)))) (mvT hZ (hw _ (List.mem_of_getElem? (i := 41) rfl))) (mvT hZ (hw _ (List.mem_of_getElem? (i := 40) rfl))) (by decide) (backOf (W := 0) (rmAdd2_1 l Z a0 hw [] o r1 gA kA k1 p3 p6 (p4 ^^^ (-1 : Int32)) x0 x1 kx kx p2 p5 T4.heap n0 Zs4 Gc4 Gs4 E_o_4 Vg4 Ov V_r1_4 Vz0_4 Ez0_4 Vz1_4 Ez1_4 (Ne.symm ne_r1_o) ne_o_gA ne_o_x0 ne_o_x1 ne_r1_gA ne_r1_x0 ne_r1_x1 ne_gA_x0 ne_gA_x1 ne_x0_x1 g_o g_gA g_x0 g_x1) hZ (hw _ (List.mem_of_getElem? (i := 42) rfl)) (hw _ (List.mem_of_getElem? (i := 3) rfl)) (by decide) (by decide)) q5a q5c (g := (mkF m 120 #[iv p1, iv p2, iv p3, iv p4, iv p5, iv p6, iv (2 : Int32), iv (3 : Int32), iv ci, rv r0, rv r1, rv r2, rv o, .unset, .unset, .unset] [(.ref r1), (.ref o)])) rfl (by rw [hml]; rfl) (Steps.refl _) (argsL := [(.ref r1)]) (rest := []) (lenOf pd__28_5bI_29V rfl) rfl (by show 2 * 0 + _ ≤ _; exact Nat.le_of_eq rfl) (hb hby at_120) (fun _ _ => ⟨rfl, rfl, (by decide : 7 + 2 ≤ _), (by decide : 15 + 8 ≤ _)⟩)
    dsimp only [Pt.U, Pt.locs, Pt.cells, Pt.slots] at X5 l5 y5 z5 st5 hQ5
    subst l5 y5 z5
    obtain ⟨z0_5, z1_5, kz0_5, kz1_5, rfl, N5q, K5, Gc5, Gs5, Vg5, Vz0_5, Ez0_5, Vz1_5, Ez1_5, gz0_5, gz1_5, ne_z0_5_z1_5⟩ := hQ5
    have N5 := Fr.app N4 N5q
    refine Goes.step ?_ (fun _ k => st5.trans k)
    have g_z0_5 : n0 ≤ z0_5 := Nat.le_trans Zs4 gz0_5
    have ne_o_z0_5 : o ≠ z0_5 := Nat.ne_of_lt (Nat.lt_of_lt_of_le E_o_4.lt gz0_5)
    have ne_gA_z0_5 : gA ≠ z0_5 := Nat.ne_of_lt (Nat.lt_of_lt_of_le Vg4.lt gz0_5)
    have ne_r0_z0_5 : r0 ≠ z0_5 := Nat.ne_of_lt (Nat.lt_of_lt_of_le V_r0_4.lt gz0_5)
    have ne_r1_z0_5 : r1 ≠ z0_5 := Nat.ne_of_lt (Nat.lt_of_lt_of_le V_r1_4.lt gz0_5)
    have ne_r2_z0_5 : r2 ≠ z0_5 := Nat.ne_of_lt (Nat.lt_of_lt_of_le V_r2_4.lt gz0_5)
    have g_z1_5 : n0 ≤ z1_5 := Nat.le_trans Zs4 gz1_5
    have ne_o_z1_5 : o ≠ z1_5 := Nat.ne_of_lt (Nat.lt_of_lt_of_le E_o_4.lt gz1_5)
    have ne_gA_z1_5 : gA ≠ z1_5 := Nat.ne_of_lt (Nat.lt_of_lt_of_le Vg4.lt gz1_5)
    have ne_r0_z1_5 : r0 ≠ z1_5 := Nat.ne_of_lt (Nat.lt_of_lt_of_le V_r0_4.lt gz1_5)
    have ne_r1_z1_5 : r1 ≠ z1_5 := Nat.ne_of_lt (Nat.lt_of_lt_of_le V_r1_4.lt gz1_5)
    have ne_r2_z1_5 : r2 ≠ z1_5 := Nat.ne_of_lt (Nat.lt_of_lt_of_le V_r2_4.lt gz1_5)
    have Zs5 : n0 ≤ T5.heap.size := Nat.le_trans Zs4 K5.1
    have E_o_5 := E_o_4.keep K5
    have V_r0_5 := V_r0_4.keep K5 (ninS ne_r0_o (ninS ne_r0_gA nin0))
    have V_r1_5 := V_r1_4.keep K5 (ninS ne_r1_o (ninS ne_r1_gA nin0))
    have V_r2_5 := V_r2_4.keep K5 (ninS ne_r2_o (ninS ne_r2_gA nin0))
    show Goes p e below _ (sF T5 m 123 #[iv p1, iv p2, iv p3, iv p4, iv p5, iv p6, iv (2 : Int32), iv (3 : Int32), iv ci, rv r0, rv r1, rv r2, rv o, .unset, .unset, .unset] [])
    refine Goes.step ?_ (fun _ k => XS.iload X5.here hx rfl (hb hby at_123) rfl  k)
    show Goes p e below _ (sF T5 m 125 #[iv p1, iv p2, iv p3, iv p4, iv p5, iv p6, iv (2 : Int32), iv (3 : Int32), iv ci, rv r0, rv r1, rv r2, rv o, .unset, .unset, .unset] [(.int (3 : Int32))])
    refine Goes.step ?_ (fun _ k => XS.iconst X5.here hx rfl (hb hby at_125) k)
    show Goes p e below _ (sF T5 m 126 #[iv p1, iv p2, iv p3, iv p4, iv p5, iv p6, iv (2 : Int32), iv (3 : Int32), iv ci, rv r0, rv r1, rv r2, rv o, .unset, .unset, .unset] [(.int (2 : Int32)), (.int (3 : Int32))])
    refine Goes.step ?_ (fun _ k => XS.icmpNo X5.here hx rfl (hb hby at_126) rfl (tlt (by decide : (2 : Int32) < (3 : Int32))).2.2.2 k)
    show Goes p e below _ (sF T5 m 129 #[iv p1, iv p2, iv p3, iv p4, iv p5, iv p6, iv (2 : Int32), iv (3 : Int32), iv ci, rv r0, rv r1, rv r2, rv o, .unset, .unset, .unset] [])
    refine Goes.step ?_ (fun _ k => XS.aload X5.here hx rfl (hb hby at_129) rfl rfl k)
    show Goes p e below _ (sF T5 m 131 #[iv p1, iv p2, iv p3, iv p4, iv p5, iv p6, iv (2 : Int32), iv (3 : Int32), iv ci, rv r0, rv r1, rv r2, rv o, .unset, .unset, .unset] [(.ref o)])
    refine Goes.step ?_ (fun _ k => XS.aload X5.here hx rfl (hb hby at_131) rfl rfl k)
    show Goes p e below _ (sF T5 m 133 #[iv p1, iv p2, iv p3, iv p4, iv p5, iv p6, iv (2 : Int32), iv (3 : Int32), iv ci, rv r0, rv r1, rv r2, rv o, .unset, .unset, .unset] [(.ref r2), (.ref o)])
    obtain ⟨cq6, kq6, q6a, q6b, q6c⟩ := isOf hZ rfl E_o_5
    obtain ⟨_, _, ⟨T6, L6, k6, n6⟩, -, X6, ⟨Lc6, hQ6, l6, y6, z6⟩, st6⟩ := X5.virtualBack hx (y := (⟨"com/example/clio/clio/repository/Columns", "add", "([I)V"⟩ : MethodName)) (z := (⟨"com/example/clio/clio/repository/Columns", "add", "([I)V"⟩ : MethodName)) hown (mvT hZ (hw _ (List.mem_of_getElem? (i := 38) rfl))) (mvT hZ (hw _ (List.mem_of_getElem? (i := 39) rfl))) (notFace_of_selects (args := #[]) (mvT hZ (hw _ (List.mem_of_getElem? (i := 41) rfl)))) (mvT hZ (hw _ (List.mem_of_getElem? (i := 41) rfl))) (mvT hZ (hw _ (List.mem_of_getElem? (i := 40) rfl))) (by decide) (backOf (W := 0) (rmAdd2_2 l Z a0 hw [] o r2 gA kA k2 p4 (p2 ^^^ p6) (p5 ^^^ (-1 : Int32)) z0_5 z1_5 kz0_5 kz1_5 p2 p3 p5 p6 T5.heap n0 Zs5 Gc5 Gs5 E_o_5 Vg5 Ov V_r2_5 Vz0_5 Ez0_5 Vz1_5 Ez1_5 (Ne.symm ne_r2_o) ne_o_gA ne_o_z0_5 ne_o_z1_5 ne_r2_gA ne_r2_z0_5 ne_r2_z1_5 ne_gA_z0_5 ne_gA_z1_5 ne_z0_5_z1_5 g_o g_gA g_z0_5 g_z1_5) hZ (hw _ (List.mem_of_getElem? (i := 42) rfl)) (hw _ (List.mem_of_getElem? (i := 3) rfl)) (by decide) (by decide)) q6a q6c (g := (mkF m 133 #[iv p1, iv p2, iv p3, iv p4, iv p5, iv p6, iv (2 : Int32), iv (3 : Int32), iv ci, rv r0, rv r1, rv r2, rv o, .unset, .unset, .unset] [(.ref r2), (.ref o)])) rfl (by rw [hml]; rfl) (Steps.refl _) (argsL := [(.ref r2)]) (rest := []) (lenOf pd__28_5bI_29V rfl) rfl (by show 2 * 0 + _ ≤ _; exact Nat.le_of_eq rfl) (hb hby at_133) (fun _ _ => ⟨rfl, rfl, (by decide : 7 + 2 + 2 ≤ _), (by decide : 15 + 8 + 8 ≤ _)⟩)
    dsimp only [Pt.U, Pt.locs, Pt.cells, Pt.slots] at X6 l6 y6 z6 st6 hQ6
    subst l6 y6 z6
    obtain ⟨z0_6, z1_6, kz0_6, kz1_6, rfl, N6q, K6, Gc6, Gs6, Vg6, Vz0_6, Ez0_6, Vz1_6, Ez1_6, gz0_6, gz1_6, ne_z0_6_z1_6⟩ := hQ6
    have N6 := Fr.app N5 N6q
    refine Goes.step ?_ (fun _ k => st6.trans k)
    have g_z0_6 : n0 ≤ z0_6 := Nat.le_trans Zs5 gz0_6
    have ne_o_z0_6 : o ≠ z0_6 := Nat.ne_of_lt (Nat.lt_of_lt_of_le E_o_5.lt gz0_6)
    have ne_gA_z0_6 : gA ≠ z0_6 := Nat.ne_of_lt (Nat.lt_of_lt_of_le Vg5.lt gz0_6)
    have ne_r0_z0_6 : r0 ≠ z0_6 := Nat.ne_of_lt (Nat.lt_of_lt_of_le V_r0_5.lt gz0_6)
    have ne_r1_z0_6 : r1 ≠ z0_6 := Nat.ne_of_lt (Nat.lt_of_lt_of_le V_r1_5.lt gz0_6)
    have ne_r2_z0_6 : r2 ≠ z0_6 := Nat.ne_of_lt (Nat.lt_of_lt_of_le V_r2_5.lt gz0_6)
    have g_z1_6 : n0 ≤ z1_6 := Nat.le_trans Zs5 gz1_6
    have ne_o_z1_6 : o ≠ z1_6 := Nat.ne_of_lt (Nat.lt_of_lt_of_le E_o_5.lt gz1_6)
    have ne_gA_z1_6 : gA ≠ z1_6 := Nat.ne_of_lt (Nat.lt_of_lt_of_le Vg5.lt gz1_6)
    have ne_r0_z1_6 : r0 ≠ z1_6 := Nat.ne_of_lt (Nat.lt_of_lt_of_le V_r0_5.lt gz1_6)
    have ne_r1_z1_6 : r1 ≠ z1_6 := Nat.ne_of_lt (Nat.lt_of_lt_of_le V_r1_5.lt gz1_6)
    have ne_r2_z1_6 : r2 ≠ z1_6 := Nat.ne_of_lt (Nat.lt_of_lt_of_le V_r2_5.lt gz1_6)
    have Zs6 : n0 ≤ T6.heap.size := Nat.le_trans Zs5 K6.1
    have E_o_6 := E_o_5.keep K6
    have V_r0_6 := V_r0_5.keep K6 (ninS ne_r0_o (ninS ne_r0_gA nin0))
    have V_r1_6 := V_r1_5.keep K6 (ninS ne_r1_o (ninS ne_r1_gA nin0))
    have V_r2_6 := V_r2_5.keep K6 (ninS ne_r2_o (ninS ne_r2_gA nin0))
    show Goes p e below _ (sF T6 m 136 #[iv p1, iv p2, iv p3, iv p4, iv p5, iv p6, iv (2 : Int32), iv (3 : Int32), iv ci, rv r0, rv r1, rv r2, rv o, .unset, .unset, .unset] [])
    rcases hc with rfl | rfl
    · exact tail136_3 p1 p2 p3 p4 p5 p6 (2 : Int32) 0 r0 r1 r2 k0 k1 k2 _ _ _ o gA kA _ z0_6 kz0_6 p2 p3 p4 (0 : Int32) (X6.mono (by decide) (by decide)) hx hZ hw hby hlk hret hml hown rfl N6 Zs6 Gc6 Gs6 E_o_6 Vg6 (by decide) (by decide) rfl Vz0_6 Ez0_6 V_r0_6 V_r1_6 V_r2_6 rfl rfl rfl
    · exact tail136_3 p1 p2 p3 p4 p5 p6 (2 : Int32) 1 r0 r1 r2 k0 k1 k2 _ _ _ o gA kA _ z1_6 kz1_6 p5 p6 (p2 ^^^ p6) (0 : Int32) (X6.mono (by decide) (by decide)) hx hZ hw hby hlk hret hml hown rfl N6 Zs6 Gc6 Gs6 E_o_6 Vg6 (by decide) (by decide) rfl Vz1_6 Ez1_6 V_r0_6 V_r1_6 V_r2_6 rfl rfl rfl
set_option maxRecDepth 65536 in
set_option maxHeartbeats 40000000 in
theorem tail98_3 {p : Program} {l : Launch} {e : Env} {s : State} {m : MethodId} {args : Array Value} {below : List Frame} {meth : Method} {c : Code} {T0 : State} {locs : List Loc} {Z : State} {a0 : Array Value} {h0 : Heap} {n0 : Nat} (p1 : Int32) (p2 : Int32) (p3 : Int32) (p4 : Int32) (p5 : Int32) (p6 : Int32) (nn : Int32) (ci : Int32) (r0 : Addr) (r1 : Addr) (r2 : Addr) (k0 : ClassId) (k1 : ClassId) (k2 : ClassId) (o : Addr) (gA : Addr) (kA : ClassId) (kx : ClassId) (x0 : Addr) (x1 : Addr) (x2 : Addr)
    (X0 : Stand p l e room_1 s m args below meth c T0 locs (8) (17)) (hx : p.tables.exec = Jvm.exec) (hZ : Z.Warmed39 s.vm) (hw : ∀ d ∈ tables_1, d.before a0 Z = true) (hby : c.code = code) (hlk : meth.locks = false) (hret : meth.sig.returnType = some .boolean) (hml : c.maxLocals = 16) (hown : s.vm.findClass "com/example/clio/clio/repository/ColumnsColumnPinLaw" = some m.cls) (e0 : T0.heap = h0) (N0 : Fr n0 locs) (Z0 : n0 ≤ h0.size) (hnn : nn = 0 ∨ nn = 1 ∨ nn = 2 ∨ nn = 3) (hc : ci = 0 ∨ ci = 1 ∨ ci = 2) (F_columns : Fld Z h0 o "com/example/clio/clio/repository/Columns" "columns" "[[I" (.ref gA)) (F_size : Fld Z h0 o "com/example/clio/clio/repository/Columns" "size" "I" (.int (0 : Int32))) (E_o : Exa Z h0 o "com/example/clio/clio/repository/Columns") (V_gA : Arv Z h0 gA kA (.array .int) (3 : Int32) [(.ref x0), (.ref x1), (.ref x2)] .null) (Ov : OvrA Z kA .int "[I") (V_x0 : Arv Z h0 x0 kx .int (1 : Int32) [(.int (0 : Int32))] (.int (0 : Int32))) (E_x0 : Exa Z h0 x0 "[I") (V_x1 : Arv Z h0 x1 kx .int (1 : Int32) [(.int (0 : Int32))] (.int (0 : Int32))) (E_x1 : Exa Z h0 x1 "[I") (V_x2 : Arv Z h0 x2 kx .int (1 : Int32) [(.int (0 : Int32))] (.int (0 : Int32))) (E_x2 : Exa Z h0 x2 "[I") (V_r0 : Arv Z h0 r0 k0 .int (3 : Int32) [(.int p2), (.int p5), (.int (p3 ^^^ (-1 : Int32)))] (.int (0 : Int32))) (V_r1 : Arv Z h0 r1 k1 .int (3 : Int32) [(.int p3), (.int p6), (.int (p4 ^^^ (-1 : Int32)))] (.int (0 : Int32))) (V_r2 : Arv Z h0 r2 k2 .int (3 : Int32) [(.int p4), (.int (p2 ^^^ p6)), (.int (p5 ^^^ (-1 : Int32)))] (.int (0 : Int32))) (ne_r0_r1 : r0 ≠ r1) (ne_r0_r2 : r0 ≠ r2) (ne_r0_o : r0 ≠ o) (ne_r0_gA : r0 ≠ gA) (ne_r0_x0 : r0 ≠ x0) (ne_r0_x1 : r0 ≠ x1) (ne_r0_x2 : r0 ≠ x2) (ne_r1_r2 : r1 ≠ r2) (ne_r1_o : r1 ≠ o) (ne_r1_gA : r1 ≠ gA) (ne_r1_x0 : r1 ≠ x0) (ne_r1_x1 : r1 ≠ x1) (ne_r1_x2 : r1 ≠ x2) (ne_r2_o : r2 ≠ o) (ne_r2_gA : r2 ≠ gA) (ne_r2_x0 : r2 ≠ x0) (ne_r2_x1 : r2 ≠ x1) (ne_r2_x2 : r2 ≠ x2) (ne_o_gA : o ≠ gA) (ne_o_x0 : o ≠ x0) (ne_o_x1 : o ≠ x1) (ne_o_x2 : o ≠ x2) (ne_gA_x0 : gA ≠ x0) (ne_gA_x1 : gA ≠ x1) (ne_gA_x2 : gA ≠ x2) (ne_x0_x1 : x0 ≠ x1) (ne_x0_x2 : x0 ≠ x2) (ne_x1_x2 : x1 ≠ x2) (g_o : n0 ≤ o) (g_gA : n0 ≤ gA) (g_x0 : n0 ≤ x0) (g_x1 : n0 ≤ x1) (g_x2 : n0 ≤ x2) :
    Goes p e below (fun o U' => ∃ v L, o = .returned v ∧ Q0 n0 v U'.heap L ∧ FrameEnd s o U' L room_1.cells room_1.slots) (T0.setTop (mkF m 98 #[iv p1, iv p2, iv p3, iv p4, iv p5, iv p6, iv (3 : Int32), iv nn, iv ci, rv r0, rv r1, rv r2, rv o, .unset, .unset, .unset] [])) := by
  rcases hnn with rfl | rfl | rfl | rfl
  · show Goes p e below _ (sF T0 m 98 #[iv p1, iv p2, iv p3, iv p4, iv p5, iv p6, iv (3 : Int32), iv (0 : Int32), iv ci, rv r0, rv r1, rv r2, rv o, .unset, .unset, .unset] [])
    refine Goes.step ?_ (fun _ k => XS.iload X0.here hx rfl (hb hby at_98) rfl  k)
    show Goes p e below _ (sF T0 m 100 #[iv p1, iv p2, iv p3, iv p4, iv p5, iv p6, iv (3 : Int32), iv (0 : Int32), iv ci, rv r0, rv r1, rv r2, rv o, .unset, .unset, .unset] [(.int (0 : Int32))])
    refine Goes.step ?_ (fun _ k => XS.ifYes X0.here hx rfl (pc0 := 100) (pc' := 110) rfl (hb hby at_100) rfl ((if0 _ _).trans (flt (by decide : ¬ ((0 : Int32) < (0 : Int32)))).2.2.2) (by decide) (by decide) k)
    show Goes p e below _ (sF T0 m 110 #[iv p1, iv p2, iv p3, iv p4, iv p5, iv p6, iv (3 : Int32), iv (0 : Int32), iv ci, rv r0, rv r1, rv r2, rv o, .unset, .unset, .unset] [])
    refine Goes.step ?_ (fun _ k => XS.iload X0.here hx rfl (hb hby at_110) rfl  k)
    show Goes p e below _ (sF T0 m 112 #[iv p1, iv p2, iv p3, iv p4, iv p5, iv p6, iv (3 : Int32), iv (0 : Int32), iv ci, rv r0, rv r1, rv r2, rv o, .unset, .unset, .unset] [(.int (0 : Int32))])
    refine Goes.step ?_ (fun _ k => XS.iconst X0.here hx rfl (hb hby at_112) k)
    show Goes p e below _ (sF T0 m 113 #[iv p1, iv p2, iv p3, iv p4, iv p5, iv p6, iv (3 : Int32), iv (0 : Int32), iv ci, rv r0, rv r1, rv r2, rv o, .unset, .unset, .unset] [(.int (1 : Int32)), (.int (0 : Int32))])
    refine Goes.step ?_ (fun _ k => XS.icmpYes X0.here hx rfl (pc0 := 113) (pc' := 123) rfl (hb hby at_113) rfl (flt (by decide : ¬ ((1 : Int32) < (0 : Int32)))).2.2.2 (by decide) (by decide) k)
    show Goes p e below _ (sF T0 m 123 #[iv p1, iv p2, iv p3, iv p4, iv p5, iv p6, iv (3 : Int32), iv (0 : Int32), iv ci, rv r0, rv r1, rv r2, rv o, .unset, .unset, .unset] [])
    refine Goes.step ?_ (fun _ k => XS.iload X0.here hx rfl (hb hby at_123) rfl  k)
    show Goes p e below _ (sF T0 m 125 #[iv p1, iv p2, iv p3, iv p4, iv p5, iv p6, iv (3 : Int32), iv (0 : Int32), iv ci, rv r0, rv r1, rv r2, rv o, .unset, .unset, .unset] [(.int (0 : Int32))])
    refine Goes.step ?_ (fun _ k => XS.iconst X0.here hx rfl (hb hby at_125) k)
    show Goes p e below _ (sF T0 m 126 #[iv p1, iv p2, iv p3, iv p4, iv p5, iv p6, iv (3 : Int32), iv (0 : Int32), iv ci, rv r0, rv r1, rv r2, rv o, .unset, .unset, .unset] [(.int (2 : Int32)), (.int (0 : Int32))])
    refine Goes.step ?_ (fun _ k => XS.icmpYes X0.here hx rfl (pc0 := 126) (pc' := 136) rfl (hb hby at_126) rfl (flt (by decide : ¬ ((2 : Int32) < (0 : Int32)))).2.2.2 (by decide) (by decide) k)
    show Goes p e below _ (sF T0 m 136 #[iv p1, iv p2, iv p3, iv p4, iv p5, iv p6, iv (3 : Int32), iv (0 : Int32), iv ci, rv r0, rv r1, rv r2, rv o, .unset, .unset, .unset] [])
    rcases hc with rfl | rfl | rfl
    · exact tail136_0 p1 p2 p3 p4 p5 p6 (3 : Int32) 0 r0 r1 r2 k0 k1 k2 _ _ _ o gA kA _ x0 kx p2 p3 p4 (0 : Int32) (X0.mono (by decide) (by decide)) hx hZ hw hby hlk hret hml hown e0 N0 Z0 F_columns F_size E_o V_gA (by decide) (by decide) rfl V_x0 E_x0 V_r0 V_r1 V_r2 rfl rfl rfl
    · exact tail136_0 p1 p2 p3 p4 p5 p6 (3 : Int32) 1 r0 r1 r2 k0 k1 k2 _ _ _ o gA kA _ x1 kx p5 p6 (p2 ^^^ p6) (0 : Int32) (X0.mono (by decide) (by decide)) hx hZ hw hby hlk hret hml hown e0 N0 Z0 F_columns F_size E_o V_gA (by decide) (by decide) rfl V_x1 E_x1 V_r0 V_r1 V_r2 rfl rfl rfl
    · exact tail136_0 p1 p2 p3 p4 p5 p6 (3 : Int32) 2 r0 r1 r2 k0 k1 k2 _ _ _ o gA kA _ x2 kx (p3 ^^^ (-1 : Int32)) (p4 ^^^ (-1 : Int32)) (p5 ^^^ (-1 : Int32)) (0 : Int32) (X0.mono (by decide) (by decide)) hx hZ hw hby hlk hret hml hown e0 N0 Z0 F_columns F_size E_o V_gA (by decide) (by decide) rfl V_x2 E_x2 V_r0 V_r1 V_r2 rfl rfl rfl
  · show Goes p e below _ (sF T0 m 98 #[iv p1, iv p2, iv p3, iv p4, iv p5, iv p6, iv (3 : Int32), iv (1 : Int32), iv ci, rv r0, rv r1, rv r2, rv o, .unset, .unset, .unset] [])
    refine Goes.step ?_ (fun _ k => XS.iload X0.here hx rfl (hb hby at_98) rfl  k)
    show Goes p e below _ (sF T0 m 100 #[iv p1, iv p2, iv p3, iv p4, iv p5, iv p6, iv (3 : Int32), iv (1 : Int32), iv ci, rv r0, rv r1, rv r2, rv o, .unset, .unset, .unset] [(.int (1 : Int32))])
    refine Goes.step ?_ (fun _ k => XS.ifNo X0.here hx rfl (hb hby at_100) rfl ((if0 _ _).trans (tlt (by decide : (0 : Int32) < (1 : Int32))).2.2.2) k)
    show Goes p e below _ (sF T0 m 103 #[iv p1, iv p2, iv p3, iv p4, iv p5, iv p6, iv (3 : Int32), iv (1 : Int32), iv ci, rv r0, rv r1, rv r2, rv o, .unset, .unset, .unset] [])
    refine Goes.step ?_ (fun _ k => XS.aload X0.here hx rfl (hb hby at_103) rfl rfl k)
    show Goes p e below _ (sF T0 m 105 #[iv p1, iv p2, iv p3, iv p4, iv p5, iv p6, iv (3 : Int32), iv (1 : Int32), iv ci, rv r0, rv r1, rv r2, rv o, .unset, .unset, .unset] [(.ref o)])
    refine Goes.step ?_ (fun _ k => XS.aload X0.here hx rfl (hb hby at_105) rfl rfl k)
    show Goes p e below _ (sF T0 m 107 #[iv p1, iv p2, iv p3, iv p4, iv p5, iv p6, iv (3 : Int32), iv (1 : Int32), iv ci, rv r0, rv r1, rv r2, rv o, .unset, .unset, .unset] [(.ref r0), (.ref o)])
    obtain ⟨cq1, kq1, q1a, q1b, q1c⟩ := isOf hZ e0 E_o
    obtain ⟨_, _, ⟨T1, L1, k1, n1⟩, -, X1, ⟨Lc1, hQ1, l1, y1, z1⟩, st1⟩ := X0.virtualBack hx (y := (⟨"com/example/clio/clio/repository/Columns", "add", "([I)V"⟩ : MethodName)) (z := (⟨"com/example/clio/clio/repository/Columns", "add", "([I)V"⟩ : MethodName)) hown (mvT hZ (hw _ (List.mem_of_getElem? (i := 38) rfl))) (mvT hZ (hw _ (List.mem_of_getElem? (i := 39) rfl))) (notFace_of_selects (args := #[]) (mvT hZ (hw _ (List.mem_of_getElem? (i := 41) rfl)))) (mvT hZ (hw _ (List.mem_of_getElem? (i := 41) rfl))) (mvT hZ (hw _ (List.mem_of_getElem? (i := 40) rfl))) (by decide) (backOf (W := 0) (rmAdd3_0 l Z a0 hw [] o r0 gA kA k0 p2 p5 (p3 ^^^ (-1 : Int32)) x0 x1 x2 kx kx kx (0 : Int32) (0 : Int32) (0 : Int32) h0 n0 Z0 F_columns F_size E_o V_gA Ov V_r0 V_x0 E_x0 V_x1 E_x1 V_x2 E_x2 (Ne.symm ne_r0_o) ne_o_gA ne_o_x0 ne_o_x1 ne_o_x2 ne_r0_gA ne_r0_x0 ne_r0_x1 ne_r0_x2 ne_gA_x0 ne_gA_x1 ne_gA_x2 ne_x0_x1 ne_x0_x2 ne_x1_x2 g_o g_gA g_x0 g_x1 g_x2) hZ (hw _ (List.mem_of_getElem? (i := 42) rfl)) (hw _ (List.mem_of_getElem? (i := 3) rfl)) (by decide) (by decide)) q1a q1c (g := (mkF m 107 #[iv p1, iv p2, iv p3, iv p4, iv p5, iv p6, iv (3 : Int32), iv (1 : Int32), iv ci, rv r0, rv r1, rv r2, rv o, .unset, .unset, .unset] [(.ref r0), (.ref o)])) rfl (by rw [hml]; rfl) (Steps.refl _) (argsL := [(.ref r0)]) (rest := []) (lenOf pd__28_5bI_29V rfl) rfl (by show 2 * 0 + _ ≤ _; exact Nat.le_of_eq rfl) (hb hby at_107) (fun _ _ => ⟨rfl, e0, (by decide : 8 + 0 ≤ _), (by decide : 17 + 0 ≤ _)⟩)
    dsimp only [Pt.U, Pt.locs, Pt.cells, Pt.slots] at X1 l1 y1 z1 st1 hQ1
    subst l1 y1 z1
    obtain ⟨rfl, N1q, K1, Gc1, Gs1, Vg1, Vz0_1, Ez0_1, Vz1_1, Ez1_1, Vz2_1, Ez2_1⟩ := hQ1
    have N1 := Fr.app N0 N1q
    refine Goes.step ?_ (fun _ k => st1.trans k)
    have Zs1 : n0 ≤ T1.heap.size := Nat.le_trans Z0 K1.1
    have E_o_1 := E_o.keep K1
    have V_r0_1 := V_r0.keep K1 (ninS ne_r0_o (ninS ne_r0_x0 (ninS ne_r0_x1 (ninS ne_r0_x2 nin0))))
    have V_r1_1 := V_r1.keep K1 (ninS ne_r1_o (ninS ne_r1_x0 (ninS ne_r1_x1 (ninS ne_r1_x2 nin0))))
    have V_r2_1 := V_r2.keep K1 (ninS ne_r2_o (ninS ne_r2_x0 (ninS ne_r2_x1 (ninS ne_r2_x2 nin0))))
    show Goes p e below _ (sF T1 m 110 #[iv p1, iv p2, iv p3, iv p4, iv p5, iv p6, iv (3 : Int32), iv (1 : Int32), iv ci, rv r0, rv r1, rv r2, rv o, .unset, .unset, .unset] [])
    refine Goes.step ?_ (fun _ k => XS.iload X1.here hx rfl (hb hby at_110) rfl  k)
    show Goes p e below _ (sF T1 m 112 #[iv p1, iv p2, iv p3, iv p4, iv p5, iv p6, iv (3 : Int32), iv (1 : Int32), iv ci, rv r0, rv r1, rv r2, rv o, .unset, .unset, .unset] [(.int (1 : Int32))])
    refine Goes.step ?_ (fun _ k => XS.iconst X1.here hx rfl (hb hby at_112) k)
    show Goes p e below _ (sF T1 m 113 #[iv p1, iv p2, iv p3, iv p4, iv p5, iv p6, iv (3 : Int32), iv (1 : Int32), iv ci, rv r0, rv r1, rv r2, rv o, .unset, .unset, .unset] [(.int (1 : Int32)), (.int (1 : Int32))])
    refine Goes.step ?_ (fun _ k => XS.icmpYes X1.here hx rfl (pc0 := 113) (pc' := 123) rfl (hb hby at_113) rfl (flt (by decide : ¬ ((1 : Int32) < (1 : Int32)))).2.2.2 (by decide) (by decide) k)
    show Goes p e below _ (sF T1 m 123 #[iv p1, iv p2, iv p3, iv p4, iv p5, iv p6, iv (3 : Int32), iv (1 : Int32), iv ci, rv r0, rv r1, rv r2, rv o, .unset, .unset, .unset] [])
    refine Goes.step ?_ (fun _ k => XS.iload X1.here hx rfl (hb hby at_123) rfl  k)
    show Goes p e below _ (sF T1 m 125 #[iv p1, iv p2, iv p3, iv p4, iv p5, iv p6, iv (3 : Int32), iv (1 : Int32), iv ci, rv r0, rv r1, rv r2, rv o, .unset, .unset, .unset] [(.int (1 : Int32))])
    refine Goes.step ?_ (fun _ k => XS.iconst X1.here hx rfl (hb hby at_125) k)
    show Goes p e below _ (sF T1 m 126 #[iv p1, iv p2, iv p3, iv p4, iv p5, iv p6, iv (3 : Int32), iv (1 : Int32), iv ci, rv r0, rv r1, rv r2, rv o, .unset, .unset, .unset] [(.int (2 : Int32)), (.int (1 : Int32))])
    refine Goes.step ?_ (fun _ k => XS.icmpYes X1.here hx rfl (pc0 := 126) (pc' := 136) rfl (hb hby at_126) rfl (flt (by decide : ¬ ((2 : Int32) < (1 : Int32)))).2.2.2 (by decide) (by decide) k)
    show Goes p e below _ (sF T1 m 136 #[iv p1, iv p2, iv p3, iv p4, iv p5, iv p6, iv (3 : Int32), iv (1 : Int32), iv ci, rv r0, rv r1, rv r2, rv o, .unset, .unset, .unset] [])
    rcases hc with rfl | rfl | rfl
    · exact tail136_1 p1 p2 p3 p4 p5 p6 (3 : Int32) 0 r0 r1 r2 k0 k1 k2 _ _ _ o gA kA _ x0 kx p2 p3 p4  (X1.mono (by decide) (by decide)) hx hZ hw hby hlk hret hml hown rfl N1 Zs1 Gc1 Gs1 E_o_1 Vg1 (by decide) (by decide) rfl Vz0_1 Ez0_1 V_r0_1 V_r1_1 V_r2_1 rfl rfl rfl
    · exact tail136_1 p1 p2 p3 p4 p5 p6 (3 : Int32) 1 r0 r1 r2 k0 k1 k2 _ _ _ o gA kA _ x1 kx p5 p6 (p2 ^^^ p6)  (X1.mono (by decide) (by decide)) hx hZ hw hby hlk hret hml hown rfl N1 Zs1 Gc1 Gs1 E_o_1 Vg1 (by decide) (by decide) rfl Vz1_1 Ez1_1 V_r0_1 V_r1_1 V_r2_1 rfl rfl rfl
    · exact tail136_1 p1 p2 p3 p4 p5 p6 (3 : Int32) 2 r0 r1 r2 k0 k1 k2 _ _ _ o gA kA _ x2 kx (p3 ^^^ (-1 : Int32)) (p4 ^^^ (-1 : Int32)) (p5 ^^^ (-1 : Int32))  (X1.mono (by decide) (by decide)) hx hZ hw hby hlk hret hml hown rfl N1 Zs1 Gc1 Gs1 E_o_1 Vg1 (by decide) (by decide) rfl Vz2_1 Ez2_1 V_r0_1 V_r1_1 V_r2_1 rfl rfl rfl
  · show Goes p e below _ (sF T0 m 98 #[iv p1, iv p2, iv p3, iv p4, iv p5, iv p6, iv (3 : Int32), iv (2 : Int32), iv ci, rv r0, rv r1, rv r2, rv o, .unset, .unset, .unset] [])
    refine Goes.step ?_ (fun _ k => XS.iload X0.here hx rfl (hb hby at_98) rfl  k)
    show Goes p e below _ (sF T0 m 100 #[iv p1, iv p2, iv p3, iv p4, iv p5, iv p6, iv (3 : Int32), iv (2 : Int32), iv ci, rv r0, rv r1, rv r2, rv o, .unset, .unset, .unset] [(.int (2 : Int32))])
    refine Goes.step ?_ (fun _ k => XS.ifNo X0.here hx rfl (hb hby at_100) rfl ((if0 _ _).trans (tlt (by decide : (0 : Int32) < (2 : Int32))).2.2.2) k)
    show Goes p e below _ (sF T0 m 103 #[iv p1, iv p2, iv p3, iv p4, iv p5, iv p6, iv (3 : Int32), iv (2 : Int32), iv ci, rv r0, rv r1, rv r2, rv o, .unset, .unset, .unset] [])
    refine Goes.step ?_ (fun _ k => XS.aload X0.here hx rfl (hb hby at_103) rfl rfl k)
    show Goes p e below _ (sF T0 m 105 #[iv p1, iv p2, iv p3, iv p4, iv p5, iv p6, iv (3 : Int32), iv (2 : Int32), iv ci, rv r0, rv r1, rv r2, rv o, .unset, .unset, .unset] [(.ref o)])
    refine Goes.step ?_ (fun _ k => XS.aload X0.here hx rfl (hb hby at_105) rfl rfl k)
    show Goes p e below _ (sF T0 m 107 #[iv p1, iv p2, iv p3, iv p4, iv p5, iv p6, iv (3 : Int32), iv (2 : Int32), iv ci, rv r0, rv r1, rv r2, rv o, .unset, .unset, .unset] [(.ref r0), (.ref o)])
    obtain ⟨cq2, kq2, q2a, q2b, q2c⟩ := isOf hZ e0 E_o
    obtain ⟨_, _, ⟨T2, L2, k2, n2⟩, -, X2, ⟨Lc2, hQ2, l2, y2, z2⟩, st2⟩ := X0.virtualBack hx (y := (⟨"com/example/clio/clio/repository/Columns", "add", "([I)V"⟩ : MethodName)) (z := (⟨"com/example/clio/clio/repository/Columns", "add", "([I)V"⟩ : MethodName)) hown (mvT hZ (hw _ (List.mem_of_getElem? (i := 38) rfl))) (mvT hZ (hw _ (List.mem_of_getElem? (i := 39) rfl))) (notFace_of_selects (args := #[]) (mvT hZ (hw _ (List.mem_of_getElem? (i := 41) rfl)))) (mvT hZ (hw _ (List.mem_of_getElem? (i := 41) rfl))) (mvT hZ (hw _ (List.mem_of_getElem? (i := 40) rfl))) (by decide) (backOf (W := 0) (rmAdd3_0 l Z a0 hw [] o r0 gA kA k0 p2 p5 (p3 ^^^ (-1 : Int32)) x0 x1 x2 kx kx kx (0 : Int32) (0 : Int32) (0 : Int32) h0 n0 Z0 F_columns F_size E_o V_gA Ov V_r0 V_x0 E_x0 V_x1 E_x1 V_x2 E_x2 (Ne.symm ne_r0_o) ne_o_gA ne_o_x0 ne_o_x1 ne_o_x2 ne_r0_gA ne_r0_x0 ne_r0_x1 ne_r0_x2 ne_gA_x0 ne_gA_x1 ne_gA_x2 ne_x0_x1 ne_x0_x2 ne_x1_x2 g_o g_gA g_x0 g_x1 g_x2) hZ (hw _ (List.mem_of_getElem? (i := 42) rfl)) (hw _ (List.mem_of_getElem? (i := 3) rfl)) (by decide) (by decide)) q2a q2c (g := (mkF m 107 #[iv p1, iv p2, iv p3, iv p4, iv p5, iv p6, iv (3 : Int32), iv (2 : Int32), iv ci, rv r0, rv r1, rv r2, rv o, .unset, .unset, .unset] [(.ref r0), (.ref o)])) rfl (by rw [hml]; rfl) (Steps.refl _) (argsL := [(.ref r0)]) (rest := []) (lenOf pd__28_5bI_29V rfl) rfl (by show 2 * 0 + _ ≤ _; exact Nat.le_of_eq rfl) (hb hby at_107) (fun _ _ => ⟨rfl, e0, (by decide : 8 + 0 ≤ _), (by decide : 17 + 0 ≤ _)⟩)
    dsimp only [Pt.U, Pt.locs, Pt.cells, Pt.slots] at X2 l2 y2 z2 st2 hQ2
    subst l2 y2 z2
    obtain ⟨rfl, N2q, K2, Gc2, Gs2, Vg2, Vz0_2, Ez0_2, Vz1_2, Ez1_2, Vz2_2, Ez2_2⟩ := hQ2
    have N2 := Fr.app N0 N2q
    refine Goes.step ?_ (fun _ k => st2.trans k)
    have Zs2 : n0 ≤ T2.heap.size := Nat.le_trans Z0 K2.1
    have E_o_2 := E_o.keep K2
    have V_r0_2 := V_r0.keep K2 (ninS ne_r0_o (ninS ne_r0_x0 (ninS ne_r0_x1 (ninS ne_r0_x2 nin0))))
    have V_r1_2 := V_r1.keep K2 (ninS ne_r1_o (ninS ne_r1_x0 (ninS ne_r1_x1 (ninS ne_r1_x2 nin0))))
    have V_r2_2 := V_r2.keep K2 (ninS ne_r2_o (ninS ne_r2_x0 (ninS ne_r2_x1 (ninS ne_r2_x2 nin0))))
    show Goes p e below _ (sF T2 m 110 #[iv p1, iv p2, iv p3, iv p4, iv p5, iv p6, iv (3 : Int32), iv (2 : Int32), iv ci, rv r0, rv r1, rv r2, rv o, .unset, .unset, .unset] [])
    refine Goes.step ?_ (fun _ k => XS.iload X2.here hx rfl (hb hby at_110) rfl  k)
    show Goes p e below _ (sF T2 m 112 #[iv p1, iv p2, iv p3, iv p4, iv p5, iv p6, iv (3 : Int32), iv (2 : Int32), iv ci, rv r0, rv r1, rv r2, rv o, .unset, .unset, .unset] [(.int (2 : Int32))])
    refine Goes.step ?_ (fun _ k => XS.iconst X2.here hx rfl (hb hby at_112) k)
    show Goes p e below _ (sF T2 m 113 #[iv p1, iv p2, iv p3, iv p4, iv p5, iv p6, iv (3 : Int32), iv (2 : Int32), iv ci, rv r0, rv r1, rv r2, rv o, .unset, .unset, .unset] [(.int (1 : Int32)), (.int (2 : Int32))])
    refine Goes.step ?_ (fun _ k => XS.icmpNo X2.here hx rfl (hb hby at_113) rfl (tlt (by decide : (1 : Int32) < (2 : Int32))).2.2.2 k)
    show Goes p e below _ (sF T2 m 116 #[iv p1, iv p2, iv p3, iv p4, iv p5, iv p6, iv (3 : Int32), iv (2 : Int32), iv ci, rv r0, rv r1, rv r2, rv o, .unset, .unset, .unset] [])
    refine Goes.step ?_ (fun _ k => XS.aload X2.here hx rfl (hb hby at_116) rfl rfl k)
    show Goes p e below _ (sF T2 m 118 #[iv p1, iv p2, iv p3, iv p4, iv p5, iv p6, iv (3 : Int32), iv (2 : Int32), iv ci, rv r0, rv r1, rv r2, rv o, .unset, .unset, .unset] [(.ref o)])
    refine Goes.step ?_ (fun _ k => XS.aload X2.here hx rfl (hb hby at_118) rfl rfl k)
    show Goes p e below _ (sF T2 m 120 #[iv p1, iv p2, iv p3, iv p4, iv p5, iv p6, iv (3 : Int32), iv (2 : Int32), iv ci, rv r0, rv r1, rv r2, rv o, .unset, .unset, .unset] [(.ref r1), (.ref o)])
    obtain ⟨cq3, kq3, q3a, q3b, q3c⟩ := isOf hZ rfl E_o_2
    obtain ⟨_, _, ⟨T3, L3, k3, n3⟩, -, X3, ⟨Lc3, hQ3, l3, y3, z3⟩, st3⟩ := X2.virtualBack hx (y := (⟨"com/example/clio/clio/repository/Columns", "add", "([I)V"⟩ : MethodName)) (z := (⟨"com/example/clio/clio/repository/Columns", "add", "([I)V"⟩ : MethodName)) hown (mvT hZ (hw _ (List.mem_of_getElem? (i := 38) rfl))) (mvT hZ (hw _ (List.mem_of_getElem? (i := 39) rfl))) (notFace_of_selects (args := #[]) (mvT hZ (hw _ (List.mem_of_getElem? (i := 41) rfl)))) (mvT hZ (hw _ (List.mem_of_getElem? (i := 41) rfl))) (mvT hZ (hw _ (List.mem_of_getElem? (i := 40) rfl))) (by decide) (backOf (W := 0) (rmAdd3_1 l Z a0 hw [] o r1 gA kA k1 p3 p6 (p4 ^^^ (-1 : Int32)) x0 x1 x2 kx kx kx p2 p5 (p3 ^^^ (-1 : Int32)) T2.heap n0 Zs2 Gc2 Gs2 E_o_2 Vg2 Ov V_r1_2 Vz0_2 Ez0_2 Vz1_2 Ez1_2 Vz2_2 Ez2_2 (Ne.symm ne_r1_o) ne_o_gA ne_o_x0 ne_o_x1 ne_o_x2 ne_r1_gA ne_r1_x0 ne_r1_x1 ne_r1_x2 ne_gA_x0 ne_gA_x1 ne_gA_x2 ne_x0_x1 ne_x0_x2 ne_x1_x2 g_o g_gA g_x0 g_x1 g_x2) hZ (hw _ (List.mem_of_getElem? (i := 42) rfl)) (hw _ (List.mem_of_getElem? (i := 3) rfl)) (by decide) (by decide)) q3a q3c (g := (mkF m 120 #[iv p1, iv p2, iv p3, iv p4, iv p5, iv p6, iv (3 : Int32), iv (2 : Int32), iv ci, rv r0, rv r1, rv r2, rv o, .unset, .unset, .unset] [(.ref r1), (.ref o)])) rfl (by rw [hml]; rfl) (Steps.refl _) (argsL := [(.ref r1)]) (rest := []) (lenOf pd__28_5bI_29V rfl) rfl (by show 2 * 0 + _ ≤ _; exact Nat.le_of_eq rfl) (hb hby at_120) (fun _ _ => ⟨rfl, rfl, (by decide : 8 + 3 ≤ _), (by decide : 17 + 12 ≤ _)⟩)
    dsimp only [Pt.U, Pt.locs, Pt.cells, Pt.slots] at X3 l3 y3 z3 st3 hQ3
    subst l3 y3 z3
    obtain ⟨z0_3, z1_3, z2_3, kz0_3, kz1_3, kz2_3, rfl, N3q, K3, Gc3, Gs3, Vg3, Vz0_3, Ez0_3, Vz1_3, Ez1_3, Vz2_3, Ez2_3, gz0_3, gz1_3, gz2_3, ne_z0_3_z1_3, ne_z0_3_z2_3, ne_z1_3_z2_3⟩ := hQ3
    have N3 := Fr.app N2 N3q
    refine Goes.step ?_ (fun _ k => st3.trans k)
    have g_z0_3 : n0 ≤ z0_3 := Nat.le_trans Zs2 gz0_3
    have ne_o_z0_3 : o ≠ z0_3 := Nat.ne_of_lt (Nat.lt_of_lt_of_le E_o_2.lt gz0_3)
    have ne_gA_z0_3 : gA ≠ z0_3 := Nat.ne_of_lt (Nat.lt_of_lt_of_le Vg2.lt gz0_3)
    have ne_r0_z0_3 : r0 ≠ z0_3 := Nat.ne_of_lt (Nat.lt_of_lt_of_le V_r0_2.lt gz0_3)
    have ne_r1_z0_3 : r1 ≠ z0_3 := Nat.ne_of_lt (Nat.lt_of_lt_of_le V_r1_2.lt gz0_3)
    have ne_r2_z0_3 : r2 ≠ z0_3 := Nat.ne_of_lt (Nat.lt_of_lt_of_le V_r2_2.lt gz0_3)
    have g_z1_3 : n0 ≤ z1_3 := Nat.le_trans Zs2 gz1_3
    have ne_o_z1_3 : o ≠ z1_3 := Nat.ne_of_lt (Nat.lt_of_lt_of_le E_o_2.lt gz1_3)
    have ne_gA_z1_3 : gA ≠ z1_3 := Nat.ne_of_lt (Nat.lt_of_lt_of_le Vg2.lt gz1_3)
    have ne_r0_z1_3 : r0 ≠ z1_3 := Nat.ne_of_lt (Nat.lt_of_lt_of_le V_r0_2.lt gz1_3)
    have ne_r1_z1_3 : r1 ≠ z1_3 := Nat.ne_of_lt (Nat.lt_of_lt_of_le V_r1_2.lt gz1_3)
    have ne_r2_z1_3 : r2 ≠ z1_3 := Nat.ne_of_lt (Nat.lt_of_lt_of_le V_r2_2.lt gz1_3)
    have g_z2_3 : n0 ≤ z2_3 := Nat.le_trans Zs2 gz2_3
    have ne_o_z2_3 : o ≠ z2_3 := Nat.ne_of_lt (Nat.lt_of_lt_of_le E_o_2.lt gz2_3)
    have ne_gA_z2_3 : gA ≠ z2_3 := Nat.ne_of_lt (Nat.lt_of_lt_of_le Vg2.lt gz2_3)
    have ne_r0_z2_3 : r0 ≠ z2_3 := Nat.ne_of_lt (Nat.lt_of_lt_of_le V_r0_2.lt gz2_3)
    have ne_r1_z2_3 : r1 ≠ z2_3 := Nat.ne_of_lt (Nat.lt_of_lt_of_le V_r1_2.lt gz2_3)
    have ne_r2_z2_3 : r2 ≠ z2_3 := Nat.ne_of_lt (Nat.lt_of_lt_of_le V_r2_2.lt gz2_3)
    have Zs3 : n0 ≤ T3.heap.size := Nat.le_trans Zs2 K3.1
    have E_o_3 := E_o_2.keep K3
    have V_r0_3 := V_r0_2.keep K3 (ninS ne_r0_o (ninS ne_r0_gA nin0))
    have V_r1_3 := V_r1_2.keep K3 (ninS ne_r1_o (ninS ne_r1_gA nin0))
    have V_r2_3 := V_r2_2.keep K3 (ninS ne_r2_o (ninS ne_r2_gA nin0))
    show Goes p e below _ (sF T3 m 123 #[iv p1, iv p2, iv p3, iv p4, iv p5, iv p6, iv (3 : Int32), iv (2 : Int32), iv ci, rv r0, rv r1, rv r2, rv o, .unset, .unset, .unset] [])
    refine Goes.step ?_ (fun _ k => XS.iload X3.here hx rfl (hb hby at_123) rfl  k)
    show Goes p e below _ (sF T3 m 125 #[iv p1, iv p2, iv p3, iv p4, iv p5, iv p6, iv (3 : Int32), iv (2 : Int32), iv ci, rv r0, rv r1, rv r2, rv o, .unset, .unset, .unset] [(.int (2 : Int32))])
    refine Goes.step ?_ (fun _ k => XS.iconst X3.here hx rfl (hb hby at_125) k)
    show Goes p e below _ (sF T3 m 126 #[iv p1, iv p2, iv p3, iv p4, iv p5, iv p6, iv (3 : Int32), iv (2 : Int32), iv ci, rv r0, rv r1, rv r2, rv o, .unset, .unset, .unset] [(.int (2 : Int32)), (.int (2 : Int32))])
    refine Goes.step ?_ (fun _ k => XS.icmpYes X3.here hx rfl (pc0 := 126) (pc' := 136) rfl (hb hby at_126) rfl (flt (by decide : ¬ ((2 : Int32) < (2 : Int32)))).2.2.2 (by decide) (by decide) k)
    show Goes p e below _ (sF T3 m 136 #[iv p1, iv p2, iv p3, iv p4, iv p5, iv p6, iv (3 : Int32), iv (2 : Int32), iv ci, rv r0, rv r1, rv r2, rv o, .unset, .unset, .unset] [])
    rcases hc with rfl | rfl | rfl
    · exact tail136_2 p1 p2 p3 p4 p5 p6 (3 : Int32) 0 r0 r1 r2 k0 k1 k2 _ _ _ o gA kA _ z0_3 kz0_3 p2 p3 p4  (X3.mono (by decide) (by decide)) hx hZ hw hby hlk hret hml hown rfl N3 Zs3 Gc3 Gs3 E_o_3 Vg3 (by decide) (by decide) rfl Vz0_3 Ez0_3 V_r0_3 V_r1_3 V_r2_3 rfl rfl rfl
    · exact tail136_2 p1 p2 p3 p4 p5 p6 (3 : Int32) 1 r0 r1 r2 k0 k1 k2 _ _ _ o gA kA _ z1_3 kz1_3 p5 p6 (p2 ^^^ p6)  (X3.mono (by decide) (by decide)) hx hZ hw hby hlk hret hml hown rfl N3 Zs3 Gc3 Gs3 E_o_3 Vg3 (by decide) (by decide) rfl Vz1_3 Ez1_3 V_r0_3 V_r1_3 V_r2_3 rfl rfl rfl
    · exact tail136_2 p1 p2 p3 p4 p5 p6 (3 : Int32) 2 r0 r1 r2 k0 k1 k2 _ _ _ o gA kA _ z2_3 kz2_3 (p3 ^^^ (-1 : Int32)) (p4 ^^^ (-1 : Int32)) (p5 ^^^ (-1 : Int32))  (X3.mono (by decide) (by decide)) hx hZ hw hby hlk hret hml hown rfl N3 Zs3 Gc3 Gs3 E_o_3 Vg3 (by decide) (by decide) rfl Vz2_3 Ez2_3 V_r0_3 V_r1_3 V_r2_3 rfl rfl rfl
  · show Goes p e below _ (sF T0 m 98 #[iv p1, iv p2, iv p3, iv p4, iv p5, iv p6, iv (3 : Int32), iv (3 : Int32), iv ci, rv r0, rv r1, rv r2, rv o, .unset, .unset, .unset] [])
    refine Goes.step ?_ (fun _ k => XS.iload X0.here hx rfl (hb hby at_98) rfl  k)
    show Goes p e below _ (sF T0 m 100 #[iv p1, iv p2, iv p3, iv p4, iv p5, iv p6, iv (3 : Int32), iv (3 : Int32), iv ci, rv r0, rv r1, rv r2, rv o, .unset, .unset, .unset] [(.int (3 : Int32))])
    refine Goes.step ?_ (fun _ k => XS.ifNo X0.here hx rfl (hb hby at_100) rfl ((if0 _ _).trans (tlt (by decide : (0 : Int32) < (3 : Int32))).2.2.2) k)
    show Goes p e below _ (sF T0 m 103 #[iv p1, iv p2, iv p3, iv p4, iv p5, iv p6, iv (3 : Int32), iv (3 : Int32), iv ci, rv r0, rv r1, rv r2, rv o, .unset, .unset, .unset] [])
    refine Goes.step ?_ (fun _ k => XS.aload X0.here hx rfl (hb hby at_103) rfl rfl k)
    show Goes p e below _ (sF T0 m 105 #[iv p1, iv p2, iv p3, iv p4, iv p5, iv p6, iv (3 : Int32), iv (3 : Int32), iv ci, rv r0, rv r1, rv r2, rv o, .unset, .unset, .unset] [(.ref o)])
    refine Goes.step ?_ (fun _ k => XS.aload X0.here hx rfl (hb hby at_105) rfl rfl k)
    show Goes p e below _ (sF T0 m 107 #[iv p1, iv p2, iv p3, iv p4, iv p5, iv p6, iv (3 : Int32), iv (3 : Int32), iv ci, rv r0, rv r1, rv r2, rv o, .unset, .unset, .unset] [(.ref r0), (.ref o)])
    obtain ⟨cq4, kq4, q4a, q4b, q4c⟩ := isOf hZ e0 E_o
    obtain ⟨_, _, ⟨T4, L4, k4, n4⟩, -, X4, ⟨Lc4, hQ4, l4, y4, z4⟩, st4⟩ := X0.virtualBack hx (y := (⟨"com/example/clio/clio/repository/Columns", "add", "([I)V"⟩ : MethodName)) (z := (⟨"com/example/clio/clio/repository/Columns", "add", "([I)V"⟩ : MethodName)) hown (mvT hZ (hw _ (List.mem_of_getElem? (i := 38) rfl))) (mvT hZ (hw _ (List.mem_of_getElem? (i := 39) rfl))) (notFace_of_selects (args := #[]) (mvT hZ (hw _ (List.mem_of_getElem? (i := 41) rfl)))) (mvT hZ (hw _ (List.mem_of_getElem? (i := 41) rfl))) (mvT hZ (hw _ (List.mem_of_getElem? (i := 40) rfl))) (by decide) (backOf (W := 0) (rmAdd3_0 l Z a0 hw [] o r0 gA kA k0 p2 p5 (p3 ^^^ (-1 : Int32)) x0 x1 x2 kx kx kx (0 : Int32) (0 : Int32) (0 : Int32) h0 n0 Z0 F_columns F_size E_o V_gA Ov V_r0 V_x0 E_x0 V_x1 E_x1 V_x2 E_x2 (Ne.symm ne_r0_o) ne_o_gA ne_o_x0 ne_o_x1 ne_o_x2 ne_r0_gA ne_r0_x0 ne_r0_x1 ne_r0_x2 ne_gA_x0 ne_gA_x1 ne_gA_x2 ne_x0_x1 ne_x0_x2 ne_x1_x2 g_o g_gA g_x0 g_x1 g_x2) hZ (hw _ (List.mem_of_getElem? (i := 42) rfl)) (hw _ (List.mem_of_getElem? (i := 3) rfl)) (by decide) (by decide)) q4a q4c (g := (mkF m 107 #[iv p1, iv p2, iv p3, iv p4, iv p5, iv p6, iv (3 : Int32), iv (3 : Int32), iv ci, rv r0, rv r1, rv r2, rv o, .unset, .unset, .unset] [(.ref r0), (.ref o)])) rfl (by rw [hml]; rfl) (Steps.refl _) (argsL := [(.ref r0)]) (rest := []) (lenOf pd__28_5bI_29V rfl) rfl (by show 2 * 0 + _ ≤ _; exact Nat.le_of_eq rfl) (hb hby at_107) (fun _ _ => ⟨rfl, e0, (by decide : 8 + 0 ≤ _), (by decide : 17 + 0 ≤ _)⟩)
    dsimp only [Pt.U, Pt.locs, Pt.cells, Pt.slots] at X4 l4 y4 z4 st4 hQ4
    subst l4 y4 z4
    obtain ⟨rfl, N4q, K4, Gc4, Gs4, Vg4, Vz0_4, Ez0_4, Vz1_4, Ez1_4, Vz2_4, Ez2_4⟩ := hQ4
    have N4 := Fr.app N0 N4q
    refine Goes.step ?_ (fun _ k => st4.trans k)
    have Zs4 : n0 ≤ T4.heap.size := Nat.le_trans Z0 K4.1
    have E_o_4 := E_o.keep K4
    have V_r0_4 := V_r0.keep K4 (ninS ne_r0_o (ninS ne_r0_x0 (ninS ne_r0_x1 (ninS ne_r0_x2 nin0))))
    have V_r1_4 := V_r1.keep K4 (ninS ne_r1_o (ninS ne_r1_x0 (ninS ne_r1_x1 (ninS ne_r1_x2 nin0))))
    have V_r2_4 := V_r2.keep K4 (ninS ne_r2_o (ninS ne_r2_x0 (ninS ne_r2_x1 (ninS ne_r2_x2 nin0))))
    show Goes p e below _ (sF T4 m 110 #[iv p1, iv p2, iv p3, iv p4, iv p5, iv p6, iv (3 : Int32), iv (3 : Int32), iv ci, rv r0, rv r1, rv r2, rv o, .unset, .unset, .unset] [])
    refine Goes.step ?_ (fun _ k => XS.iload X4.here hx rfl (hb hby at_110) rfl  k)
    show Goes p e below _ (sF T4 m 112 #[iv p1, iv p2, iv p3, iv p4, iv p5, iv p6, iv (3 : Int32), iv (3 : Int32), iv ci, rv r0, rv r1, rv r2, rv o, .unset, .unset, .unset] [(.int (3 : Int32))])
    refine Goes.step ?_ (fun _ k => XS.iconst X4.here hx rfl (hb hby at_112) k)
    show Goes p e below _ (sF T4 m 113 #[iv p1, iv p2, iv p3, iv p4, iv p5, iv p6, iv (3 : Int32), iv (3 : Int32), iv ci, rv r0, rv r1, rv r2, rv o, .unset, .unset, .unset] [(.int (1 : Int32)), (.int (3 : Int32))])
    refine Goes.step ?_ (fun _ k => XS.icmpNo X4.here hx rfl (hb hby at_113) rfl (tlt (by decide : (1 : Int32) < (3 : Int32))).2.2.2 k)
    show Goes p e below _ (sF T4 m 116 #[iv p1, iv p2, iv p3, iv p4, iv p5, iv p6, iv (3 : Int32), iv (3 : Int32), iv ci, rv r0, rv r1, rv r2, rv o, .unset, .unset, .unset] [])
    refine Goes.step ?_ (fun _ k => XS.aload X4.here hx rfl (hb hby at_116) rfl rfl k)
    show Goes p e below _ (sF T4 m 118 #[iv p1, iv p2, iv p3, iv p4, iv p5, iv p6, iv (3 : Int32), iv (3 : Int32), iv ci, rv r0, rv r1, rv r2, rv o, .unset, .unset, .unset] [(.ref o)])
    refine Goes.step ?_ (fun _ k => XS.aload X4.here hx rfl (hb hby at_118) rfl rfl k)
    show Goes p e below _ (sF T4 m 120 #[iv p1, iv p2, iv p3, iv p4, iv p5, iv p6, iv (3 : Int32), iv (3 : Int32), iv ci, rv r0, rv r1, rv r2, rv o, .unset, .unset, .unset] [(.ref r1), (.ref o)])
    obtain ⟨cq5, kq5, q5a, q5b, q5c⟩ := isOf hZ rfl E_o_4
    obtain ⟨_, _, ⟨T5, L5, k5, n5⟩, -, X5, ⟨Lc5, hQ5, l5, y5, z5⟩, st5⟩ := X4.virtualBack hx (y := (⟨"com/example/clio/clio/repository/Columns", "add", "([I)V"⟩ : MethodName)) (z := (⟨"com/example/clio/clio/repository/Columns", "add", "([I)V"⟩ : MethodName)) hown (mvT hZ (hw _ (List.mem_of_getElem? (i := 38) rfl))) (mvT hZ (hw _ (List.mem_of_getElem? (i := 39) rfl))) (notFace_of_selects (args := #[]) (mvT hZ (hw _ (List.mem_of_getElem? (i := 41) rfl)))) (mvT hZ (hw _ (List.mem_of_getElem? (i := 41) rfl))) (mvT hZ (hw _ (List.mem_of_getElem? (i := 40) rfl))) (by decide) (backOf (W := 0) (rmAdd3_1 l Z a0 hw [] o r1 gA kA k1 p3 p6 (p4 ^^^ (-1 : Int32)) x0 x1 x2 kx kx kx p2 p5 (p3 ^^^ (-1 : Int32)) T4.heap n0 Zs4 Gc4 Gs4 E_o_4 Vg4 Ov V_r1_4 Vz0_4 Ez0_4 Vz1_4 Ez1_4 Vz2_4 Ez2_4 (Ne.symm ne_r1_o) ne_o_gA ne_o_x0 ne_o_x1 ne_o_x2 ne_r1_gA ne_r1_x0 ne_r1_x1 ne_r1_x2 ne_gA_x0 ne_gA_x1 ne_gA_x2 ne_x0_x1 ne_x0_x2 ne_x1_x2 g_o g_gA g_x0 g_x1 g_x2) hZ (hw _ (List.mem_of_getElem? (i := 42) rfl)) (hw _ (List.mem_of_getElem? (i := 3) rfl)) (by decide) (by decide)) q5a q5c (g := (mkF m 120 #[iv p1, iv p2, iv p3, iv p4, iv p5, iv p6, iv (3 : Int32), iv (3 : Int32), iv ci, rv r0, rv r1, rv r2, rv o, .unset, .unset, .unset] [(.ref r1), (.ref o)])) rfl (by rw [hml]; rfl) (Steps.refl _) (argsL := [(.ref r1)]) (rest := []) (lenOf pd__28_5bI_29V rfl) rfl (by show 2 * 0 + _ ≤ _; exact Nat.le_of_eq rfl) (hb hby at_120) (fun _ _ => ⟨rfl, rfl, (by decide : 8 + 3 ≤ _), (by decide : 17 + 12 ≤ _)⟩)
    dsimp only [Pt.U, Pt.locs, Pt.cells, Pt.slots] at X5 l5 y5 z5 st5 hQ5
    subst l5 y5 z5
    obtain ⟨z0_5, z1_5, z2_5, kz0_5, kz1_5, kz2_5, rfl, N5q, K5, Gc5, Gs5, Vg5, Vz0_5, Ez0_5, Vz1_5, Ez1_5, Vz2_5, Ez2_5, gz0_5, gz1_5, gz2_5, ne_z0_5_z1_5, ne_z0_5_z2_5, ne_z1_5_z2_5⟩ := hQ5
    have N5 := Fr.app N4 N5q
    refine Goes.step ?_ (fun _ k => st5.trans k)
    have g_z0_5 : n0 ≤ z0_5 := Nat.le_trans Zs4 gz0_5
    have ne_o_z0_5 : o ≠ z0_5 := Nat.ne_of_lt (Nat.lt_of_lt_of_le E_o_4.lt gz0_5)
    have ne_gA_z0_5 : gA ≠ z0_5 := Nat.ne_of_lt (Nat.lt_of_lt_of_le Vg4.lt gz0_5)
    have ne_r0_z0_5 : r0 ≠ z0_5 := Nat.ne_of_lt (Nat.lt_of_lt_of_le V_r0_4.lt gz0_5)
    have ne_r1_z0_5 : r1 ≠ z0_5 := Nat.ne_of_lt (Nat.lt_of_lt_of_le V_r1_4.lt gz0_5)
    have ne_r2_z0_5 : r2 ≠ z0_5 := Nat.ne_of_lt (Nat.lt_of_lt_of_le V_r2_4.lt gz0_5)
    have g_z1_5 : n0 ≤ z1_5 := Nat.le_trans Zs4 gz1_5
    have ne_o_z1_5 : o ≠ z1_5 := Nat.ne_of_lt (Nat.lt_of_lt_of_le E_o_4.lt gz1_5)
    have ne_gA_z1_5 : gA ≠ z1_5 := Nat.ne_of_lt (Nat.lt_of_lt_of_le Vg4.lt gz1_5)
    have ne_r0_z1_5 : r0 ≠ z1_5 := Nat.ne_of_lt (Nat.lt_of_lt_of_le V_r0_4.lt gz1_5)
    have ne_r1_z1_5 : r1 ≠ z1_5 := Nat.ne_of_lt (Nat.lt_of_lt_of_le V_r1_4.lt gz1_5)
    have ne_r2_z1_5 : r2 ≠ z1_5 := Nat.ne_of_lt (Nat.lt_of_lt_of_le V_r2_4.lt gz1_5)
    have g_z2_5 : n0 ≤ z2_5 := Nat.le_trans Zs4 gz2_5
    have ne_o_z2_5 : o ≠ z2_5 := Nat.ne_of_lt (Nat.lt_of_lt_of_le E_o_4.lt gz2_5)
    have ne_gA_z2_5 : gA ≠ z2_5 := Nat.ne_of_lt (Nat.lt_of_lt_of_le Vg4.lt gz2_5)
    have ne_r0_z2_5 : r0 ≠ z2_5 := Nat.ne_of_lt (Nat.lt_of_lt_of_le V_r0_4.lt gz2_5)
    have ne_r1_z2_5 : r1 ≠ z2_5 := Nat.ne_of_lt (Nat.lt_of_lt_of_le V_r1_4.lt gz2_5)
    have ne_r2_z2_5 : r2 ≠ z2_5 := Nat.ne_of_lt (Nat.lt_of_lt_of_le V_r2_4.lt gz2_5)
    have Zs5 : n0 ≤ T5.heap.size := Nat.le_trans Zs4 K5.1
    have E_o_5 := E_o_4.keep K5
    have V_r0_5 := V_r0_4.keep K5 (ninS ne_r0_o (ninS ne_r0_gA nin0))
    have V_r1_5 := V_r1_4.keep K5 (ninS ne_r1_o (ninS ne_r1_gA nin0))
    have V_r2_5 := V_r2_4.keep K5 (ninS ne_r2_o (ninS ne_r2_gA nin0))
    show Goes p e below _ (sF T5 m 123 #[iv p1, iv p2, iv p3, iv p4, iv p5, iv p6, iv (3 : Int32), iv (3 : Int32), iv ci, rv r0, rv r1, rv r2, rv o, .unset, .unset, .unset] [])
    refine Goes.step ?_ (fun _ k => XS.iload X5.here hx rfl (hb hby at_123) rfl  k)
    show Goes p e below _ (sF T5 m 125 #[iv p1, iv p2, iv p3, iv p4, iv p5, iv p6, iv (3 : Int32), iv (3 : Int32), iv ci, rv r0, rv r1, rv r2, rv o, .unset, .unset, .unset] [(.int (3 : Int32))])
    refine Goes.step ?_ (fun _ k => XS.iconst X5.here hx rfl (hb hby at_125) k)
    show Goes p e below _ (sF T5 m 126 #[iv p1, iv p2, iv p3, iv p4, iv p5, iv p6, iv (3 : Int32), iv (3 : Int32), iv ci, rv r0, rv r1, rv r2, rv o, .unset, .unset, .unset] [(.int (2 : Int32)), (.int (3 : Int32))])
    refine Goes.step ?_ (fun _ k => XS.icmpNo X5.here hx rfl (hb hby at_126) rfl (tlt (by decide : (2 : Int32) < (3 : Int32))).2.2.2 k)
    show Goes p e below _ (sF T5 m 129 #[iv p1, iv p2, iv p3, iv p4, iv p5, iv p6, iv (3 : Int32), iv (3 : Int32), iv ci, rv r0, rv r1, rv r2, rv o, .unset, .unset, .unset] [])
    refine Goes.step ?_ (fun _ k => XS.aload X5.here hx rfl (hb hby at_129) rfl rfl k)
    show Goes p e below _ (sF T5 m 131 #[iv p1, iv p2, iv p3, iv p4, iv p5, iv p6, iv (3 : Int32), iv (3 : Int32), iv ci, rv r0, rv r1, rv r2, rv o, .unset, .unset, .unset] [(.ref o)])
    refine Goes.step ?_ (fun _ k => XS.aload X5.here hx rfl (hb hby at_131) rfl rfl k)
    show Goes p e below _ (sF T5 m 133 #[iv p1, iv p2, iv p3, iv p4, iv p5, iv p6, iv (3 : Int32), iv (3 : Int32), iv ci, rv r0, rv r1, rv r2, rv o, .unset, .unset, .unset] [(.ref r2), (.ref o)])
    obtain ⟨cq6, kq6, q6a, q6b, q6c⟩ := isOf hZ rfl E_o_5
    obtain ⟨_, _, ⟨T6, L6, k6, n6⟩, -, X6, ⟨Lc6, hQ6, l6, y6, z6⟩, st6⟩ := X5.virtualBack hx (y := (⟨"com/example/clio/clio/repository/Columns", "add", "([I)V"⟩ : MethodName)) (z := (⟨"com/example/clio/clio/repository/Columns", "add", "([I)V"⟩ : MethodName)) hown (mvT hZ (hw _ (List.mem_of_getElem? (i := 38) rfl))) (mvT hZ (hw _ (List.mem_of_getElem? (i := 39) rfl))) (notFace_of_selects (args := #[]) (mvT hZ (hw _ (List.mem_of_getElem? (i := 41) rfl)))) (mvT hZ (hw _ (List.mem_of_getElem? (i := 41) rfl))) (mvT hZ (hw _ (List.mem_of_getElem? (i := 40) rfl))) (by decide) (backOf (W := 0) (rmAdd3_2 l Z a0 hw [] o r2 gA kA k2 p4 (p2 ^^^ p6) (p5 ^^^ (-1 : Int32)) z0_5 z1_5 z2_5 kz0_5 kz1_5 kz2_5 p2 p3 p5 p6 (p3 ^^^ (-1 : Int32)) (p4 ^^^ (-1 : Int32)) T5.heap n0 Zs5 Gc5 Gs5 E_o_5 Vg5 Ov V_r2_5 Vz0_5 Ez0_5 Vz1_5 Ez1_5 Vz2_5 Ez2_5 (Ne.symm ne_r2_o) ne_o_gA ne_o_z0_5 ne_o_z1_5 ne_o_z2_5 ne_r2_gA ne_r2_z0_5 ne_r2_z1_5 ne_r2_z2_5 ne_gA_z0_5 ne_gA_z1_5 ne_gA_z2_5 ne_z0_5_z1_5 ne_z0_5_z2_5 ne_z1_5_z2_5 g_o g_gA g_z0_5 g_z1_5 g_z2_5) hZ (hw _ (List.mem_of_getElem? (i := 42) rfl)) (hw _ (List.mem_of_getElem? (i := 3) rfl)) (by decide) (by decide)) q6a q6c (g := (mkF m 133 #[iv p1, iv p2, iv p3, iv p4, iv p5, iv p6, iv (3 : Int32), iv (3 : Int32), iv ci, rv r0, rv r1, rv r2, rv o, .unset, .unset, .unset] [(.ref r2), (.ref o)])) rfl (by rw [hml]; rfl) (Steps.refl _) (argsL := [(.ref r2)]) (rest := []) (lenOf pd__28_5bI_29V rfl) rfl (by show 2 * 0 + _ ≤ _; exact Nat.le_of_eq rfl) (hb hby at_133) (fun _ _ => ⟨rfl, rfl, (by decide : 8 + 3 + 3 ≤ _), (by decide : 17 + 12 + 12 ≤ _)⟩)
    dsimp only [Pt.U, Pt.locs, Pt.cells, Pt.slots] at X6 l6 y6 z6 st6 hQ6
    subst l6 y6 z6
    obtain ⟨z0_6, z1_6, z2_6, kz0_6, kz1_6, kz2_6, rfl, N6q, K6, Gc6, Gs6, Vg6, Vz0_6, Ez0_6, Vz1_6, Ez1_6, Vz2_6, Ez2_6, gz0_6, gz1_6, gz2_6, ne_z0_6_z1_6, ne_z0_6_z2_6, ne_z1_6_z2_6⟩ := hQ6
    have N6 := Fr.app N5 N6q
    refine Goes.step ?_ (fun _ k => st6.trans k)
    have g_z0_6 : n0 ≤ z0_6 := Nat.le_trans Zs5 gz0_6
    have ne_o_z0_6 : o ≠ z0_6 := Nat.ne_of_lt (Nat.lt_of_lt_of_le E_o_5.lt gz0_6)
    have ne_gA_z0_6 : gA ≠ z0_6 := Nat.ne_of_lt (Nat.lt_of_lt_of_le Vg5.lt gz0_6)
    have ne_r0_z0_6 : r0 ≠ z0_6 := Nat.ne_of_lt (Nat.lt_of_lt_of_le V_r0_5.lt gz0_6)
    have ne_r1_z0_6 : r1 ≠ z0_6 := Nat.ne_of_lt (Nat.lt_of_lt_of_le V_r1_5.lt gz0_6)
    have ne_r2_z0_6 : r2 ≠ z0_6 := Nat.ne_of_lt (Nat.lt_of_lt_of_le V_r2_5.lt gz0_6)
    have g_z1_6 : n0 ≤ z1_6 := Nat.le_trans Zs5 gz1_6
    have ne_o_z1_6 : o ≠ z1_6 := Nat.ne_of_lt (Nat.lt_of_lt_of_le E_o_5.lt gz1_6)
    have ne_gA_z1_6 : gA ≠ z1_6 := Nat.ne_of_lt (Nat.lt_of_lt_of_le Vg5.lt gz1_6)
    have ne_r0_z1_6 : r0 ≠ z1_6 := Nat.ne_of_lt (Nat.lt_of_lt_of_le V_r0_5.lt gz1_6)
    have ne_r1_z1_6 : r1 ≠ z1_6 := Nat.ne_of_lt (Nat.lt_of_lt_of_le V_r1_5.lt gz1_6)
    have ne_r2_z1_6 : r2 ≠ z1_6 := Nat.ne_of_lt (Nat.lt_of_lt_of_le V_r2_5.lt gz1_6)
    have g_z2_6 : n0 ≤ z2_6 := Nat.le_trans Zs5 gz2_6
    have ne_o_z2_6 : o ≠ z2_6 := Nat.ne_of_lt (Nat.lt_of_lt_of_le E_o_5.lt gz2_6)
    have ne_gA_z2_6 : gA ≠ z2_6 := Nat.ne_of_lt (Nat.lt_of_lt_of_le Vg5.lt gz2_6)
    have ne_r0_z2_6 : r0 ≠ z2_6 := Nat.ne_of_lt (Nat.lt_of_lt_of_le V_r0_5.lt gz2_6)
    have ne_r1_z2_6 : r1 ≠ z2_6 := Nat.ne_of_lt (Nat.lt_of_lt_of_le V_r1_5.lt gz2_6)
    have ne_r2_z2_6 : r2 ≠ z2_6 := Nat.ne_of_lt (Nat.lt_of_lt_of_le V_r2_5.lt gz2_6)
    have Zs6 : n0 ≤ T6.heap.size := Nat.le_trans Zs5 K6.1
    have E_o_6 := E_o_5.keep K6
    have V_r0_6 := V_r0_5.keep K6 (ninS ne_r0_o (ninS ne_r0_gA nin0))
    have V_r1_6 := V_r1_5.keep K6 (ninS ne_r1_o (ninS ne_r1_gA nin0))
    have V_r2_6 := V_r2_5.keep K6 (ninS ne_r2_o (ninS ne_r2_gA nin0))
    show Goes p e below _ (sF T6 m 136 #[iv p1, iv p2, iv p3, iv p4, iv p5, iv p6, iv (3 : Int32), iv (3 : Int32), iv ci, rv r0, rv r1, rv r2, rv o, .unset, .unset, .unset] [])
    rcases hc with rfl | rfl | rfl
    · exact tail136_3 p1 p2 p3 p4 p5 p6 (3 : Int32) 0 r0 r1 r2 k0 k1 k2 _ _ _ o gA kA _ z0_6 kz0_6 p2 p3 p4 (0 : Int32) (X6.mono (by decide) (by decide)) hx hZ hw hby hlk hret hml hown rfl N6 Zs6 Gc6 Gs6 E_o_6 Vg6 (by decide) (by decide) rfl Vz0_6 Ez0_6 V_r0_6 V_r1_6 V_r2_6 rfl rfl rfl
    · exact tail136_3 p1 p2 p3 p4 p5 p6 (3 : Int32) 1 r0 r1 r2 k0 k1 k2 _ _ _ o gA kA _ z1_6 kz1_6 p5 p6 (p2 ^^^ p6) (0 : Int32) (X6.mono (by decide) (by decide)) hx hZ hw hby hlk hret hml hown rfl N6 Zs6 Gc6 Gs6 E_o_6 Vg6 (by decide) (by decide) rfl Vz1_6 Ez1_6 V_r0_6 V_r1_6 V_r2_6 rfl rfl rfl
    · exact tail136_3 p1 p2 p3 p4 p5 p6 (3 : Int32) 2 r0 r1 r2 k0 k1 k2 _ _ _ o gA kA _ z2_6 kz2_6 (p3 ^^^ (-1 : Int32)) (p4 ^^^ (-1 : Int32)) (p5 ^^^ (-1 : Int32)) (0 : Int32) (X6.mono (by decide) (by decide)) hx hZ hw hby hlk hret hml hown rfl N6 Zs6 Gc6 Gs6 E_o_6 Vg6 (by decide) (by decide) rfl Vz2_6 Ez2_6 V_r0_6 V_r1_6 V_r2_6 rfl rfl rfl
theorem own_mask3 (x : Int32) : (x &&& (3 : Int32)) = 0 ∨ (x &&& (3 : Int32)) = 1 ∨ (x &&& (3 : Int32)) = 2 ∨ (x &&& (3 : Int32)) = 3 := by
  have h1 := c_mask x 3 2 (by decide) (by decide)
  simp only [← Int32.toInt_inj]
  rw [h1]
  have e0 : (0 : Int32).toInt = 0 := by decide
  have e1 : (1 : Int32).toInt = 1 := by decide
  have e2 : (2 : Int32).toInt = 2 := by decide
  have e3 : (3 : Int32).toInt = 3 := by decide
  rw [e0, e1, e2, e3]
  omega
theorem own_width (p1 : Int32) : ((1 : Int32) + ((p1 &&& (3 : Int32)) % (3 : Int32))) = 1 ∨ ((1 : Int32) + ((p1 &&& (3 : Int32)) % (3 : Int32))) = 2 ∨ ((1 : Int32) + ((p1 &&& (3 : Int32)) % (3 : Int32))) = 3 := by
  rcases own_mask3 p1 with q | q | q | q <;> rw [q] <;> decide
theorem own_ush (p1 : Int32) : 0 ≤ ((p1.toUInt32 >>> ((4 : Int32) &&& 31).toUInt32).toInt32).toInt := by
  rw [c_iushr p1 4 4 (by decide) (by decide)]
  omega
theorem own_c1 (x : Int32) (h : 0 ≤ x.toInt) : x % (1 : Int32) = 0 := by
  have h2 := (c_irem x 1 1 (by decide)).1 h
  apply Int32.toInt_inj.mp
  rw [h2]
  have e0 : (0 : Int32).toInt = 0 := by decide
  omega
theorem own_c2 (x : Int32) (h : 0 ≤ x.toInt) : x % (2 : Int32) = 0 ∨ x % (2 : Int32) = 1 := by
  have h2 := (c_irem x 2 2 (by decide)).1 h
  simp only [← Int32.toInt_inj]
  rw [h2]
  have e0 : (0 : Int32).toInt = 0 := by decide
  have e1 : (1 : Int32).toInt = 1 := by decide
  rw [e0, e1]
  omega
theorem own_c3 (x : Int32) (h : 0 ≤ x.toInt) : x % (3 : Int32) = 0 ∨ x % (3 : Int32) = 1 ∨ x % (3 : Int32) = 2 := by
  have h2 := (c_irem x 3 3 (by decide)).1 h
  simp only [← Int32.toInt_inj]
  rw [h2]
  have e0 : (0 : Int32).toInt = 0 := by decide
  have e1 : (1 : Int32).toInt = 1 := by decide
  have e2 : (2 : Int32).toInt = 2 := by decide
  rw [e0, e1, e2]
  omega
theorem own_wc (wv x : Int32) (h : 0 ≤ x.toInt) (hw : wv = 1 ∨ wv = 2 ∨ wv = 3) : (wv = 1 ∧ x % wv = 0) ∨ (wv = 2 ∧ (x % wv = 0 ∨ x % wv = 1)) ∨ (wv = 3 ∧ (x % wv = 0 ∨ x % wv = 1 ∨ x % wv = 2)) := by
  rcases hw with rfl | rfl | rfl
  · exact Or.inl ⟨rfl, own_c1 x h⟩
  · exact Or.inr (Or.inl ⟨rfl, own_c2 x h⟩)
  · exact Or.inr (Or.inr ⟨rfl, own_c3 x h⟩)
theorem own_wnz (wv : Int32) (hw : wv = 1 ∨ wv = 2 ∨ wv = 3) : wv ≠ 0 := by
  rcases hw with rfl | rfl | rfl <;> decide
theorem pn_com_example_clio_clio_repository_ColumnsColumnPinLaw : plainName "com/example/clio/clio/repository/ColumnsColumnPinLaw" = true := by first | (simp [plainName, overriddenIn]; done) | decide +kernel
theorem ef_rm0 (m : MethodId) (x0 : Int32) (x1 : Int32) (x2 : Int32) (x3 : Int32) (x4 : Int32) (x5 : Int32) : entryFrame m #[(.int x0), (.int x1), (.int x2), (.int x3), (.int x4), (.int x5)] maxLocals = mkF m 0 #[iv x0, iv x1, iv x2, iv x3, iv x4, iv x5, .unset, .unset, .unset, .unset, .unset, .unset, .unset, .unset, .unset, .unset] [] := by first | (simp [entryFrame, mkF, argsToLocals, Value.category, maxLocals]; done) | rfl
theorem pd__28I_29V : parseMethodDescriptor "(I)V" = some ⟨[.int], none⟩ := by decide +kernel
set_option maxRecDepth 65536 in
set_option maxHeartbeats 40000000 in
theorem rm0 (l : Launch) (Z : State) (a0 : Array Value) (hw : ∀ d ∈ tables_1, d.before a0 Z = true) (ws : List Jvm.Cond) (p1 : Int32) (p2 : Int32) (p3 : Int32) (p4 : Int32) (p5 : Int32) (p6 : Int32) (h0 : Heap) (n0 : Nat) (Z0 : n0 ≤ h0.size) :
    MetFree l x (head1 (Jvm.Cond.code x code maxLocals ret :: ws) room_1) (fun a U => a = #[(.int p1), (.int p2), (.int p3), (.int p4), (.int p5), (.int p6)] ∧ Z.Warmed39 U.vm ∧ U.heap = h0) (fun _ _ _ _ _ => True) (fun _ U o U' => ∃ v L, o = .returned v ∧ Q0 n0 v U'.heap L ∧ FrameEnd U o U' L room_1.cells room_1.slots) := by
  refine MetFree.of_bodySF (plainFor_of_name pn_com_example_clio_clio_repository_ColumnsColumnPinLaw) hisR ?_
  intro p e s m args below meth c s₁ Bd hml0 hP hK
  obtain ⟨rfl, hZ, hh⟩ := hP
  have hx := Bd.exec
  have hby := Bd.bytes
  have hlk : meth.locks = false := BodyLoose.notSynchronized Bd
  have hml : c.maxLocals = 16 := hml0
  have hown : s.vm.findClass "com/example/clio/clio/repository/ColumnsColumnPinLaw" = some m.cls := findClass_of_methodNamed Bd.named
  have hnm := (name_of_methodNamed Bd.named Bd.method).1
  have X0 : Stand p l e room_1 s m #[(.int p1), (.int p2), (.int p3), (.int p4), (.int p5), (.int p6)] below meth c s₁ [] 0 0 := Stand.of_body Bd
  have e0 : s₁.heap = h0 := by rw [← hh, Bd.state]; rfl
  have N0 := Fr.nil n0
  have hret := Bd.returns
  show Goes p e below (fun o U' => ∃ v L, o = .returned v ∧ Q0 n0 v U'.heap L ∧ FrameEnd s o U' L room_1.cells room_1.slots) (s₁.setTop (entryFrame m #[(.int p1), (.int p2), (.int p3), (.int p4), (.int p5), (.int p6)] maxLocals))
  refine Goes.step ?_ (fun _ k => castTop (ef_rm0 m p1 p2 p3 p4 p5 p6) k)
  show Goes p e below _ (sF s₁ m 0 #[iv p1, iv p2, iv p3, iv p4, iv p5, iv p6, .unset, .unset, .unset, .unset, .unset, .unset, .unset, .unset, .unset, .unset] [])
  refine Goes.step ?_ (fun _ k => XS.iconst X0.here hx rfl (hb hby at_0) k)
  show Goes p e below _ (sF s₁ m 1 #[iv p1, iv p2, iv p3, iv p4, iv p5, iv p6, .unset, .unset, .unset, .unset, .unset, .unset, .unset, .unset, .unset, .unset] [(.int (1 : Int32))])
  refine Goes.step ?_ (fun _ k => XS.iloadN X0.here hx rfl (hb hby at_1) rfl  k)
  show Goes p e below _ (sF s₁ m 2 #[iv p1, iv p2, iv p3, iv p4, iv p5, iv p6, .unset, .unset, .unset, .unset, .unset, .unset, .unset, .unset, .unset, .unset] [(.int p1), (.int (1 : Int32))])
  refine Goes.step ?_ (fun _ k => XS.iconst X0.here hx rfl (hb hby at_2) k)
  show Goes p e below _ (sF s₁ m 3 #[iv p1, iv p2, iv p3, iv p4, iv p5, iv p6, .unset, .unset, .unset, .unset, .unset, .unset, .unset, .unset, .unset, .unset] [(.int (3 : Int32)), (.int p1), (.int (1 : Int32))])
  refine Goes.step ?_ (fun _ k => XS.iand X0.here hx rfl (hb hby at_3) rfl k)
  show Goes p e below _ (sF s₁ m 4 #[iv p1, iv p2, iv p3, iv p4, iv p5, iv p6, .unset, .unset, .unset, .unset, .unset, .unset, .unset, .unset, .unset, .unset] [(.int (p1 &&& (3 : Int32))), (.int (1 : Int32))])
  refine Goes.step ?_ (fun _ k => XS.iconst X0.here hx rfl (hb hby at_4) k)
  show Goes p e below _ (sF s₁ m 5 #[iv p1, iv p2, iv p3, iv p4, iv p5, iv p6, .unset, .unset, .unset, .unset, .unset, .unset, .unset, .unset, .unset, .unset] [(.int (3 : Int32)), (.int (p1 &&& (3 : Int32))), (.int (1 : Int32))])
  refine Goes.step ?_ (fun _ k => iremM X0 hx rfl (hb hby at_5) rfl (by decide) k)
  show Goes p e below _ (sF s₁ m 6 #[iv p1, iv p2, iv p3, iv p4, iv p5, iv p6, .unset, .unset, .unset, .unset, .unset, .unset, .unset, .unset, .unset, .unset] [(.int ((p1 &&& (3 : Int32)) % (3 : Int32))), (.int (1 : Int32))])
  refine Goes.step ?_ (fun _ k => XS.iadd X0.here hx rfl (hb hby at_6) rfl k)
  show Goes p e below _ (sF s₁ m 7 #[iv p1, iv p2, iv p3, iv p4, iv p5, iv p6, .unset, .unset, .unset, .unset, .unset, .unset, .unset, .unset, .unset, .unset] [(.int ((1 : Int32) + ((p1 &&& (3 : Int32)) % (3 : Int32))))])
  refine Goes.step ?_ (fun _ k => XS.istore X0.here hx rfl (hb hby at_7) rfl (l' := #[iv p1, iv p2, iv p3, iv p4, iv p5, iv p6, iv ((1 : Int32) + ((p1 &&& (3 : Int32)) % (3 : Int32))), .unset, .unset, .unset, .unset, .unset, .unset, .unset, .unset, .unset]) rfl k)
  show Goes p e below _ (sF s₁ m 9 #[iv p1, iv p2, iv p3, iv p4, iv p5, iv p6, iv ((1 : Int32) + ((p1 &&& (3 : Int32)) % (3 : Int32))), .unset, .unset, .unset, .unset, .unset, .unset, .unset, .unset, .unset] [])
  have hwv := own_width p1
  obtain ⟨wv, qw⟩ : ∃ z, z = ((1 : Int32) + ((p1 &&& (3 : Int32)) % (3 : Int32))) := ⟨_, rfl⟩
  rw [← qw] at hwv ⊢
  show Goes p e below _ (sF s₁ m 9 #[iv p1, iv p2, iv p3, iv p4, iv p5, iv p6, iv wv, .unset, .unset, .unset, .unset, .unset, .unset, .unset, .unset, .unset] [])
  refine Goes.step ?_ (fun _ k => XS.iloadN X0.here hx rfl (hb hby at_9) rfl  k)
  show Goes p e below _ (sF s₁ m 10 #[iv p1, iv p2, iv p3, iv p4, iv p5, iv p6, iv wv, .unset, .unset, .unset, .unset, .unset, .unset, .unset, .unset, .unset] [(.int p1)])
  refine Goes.step ?_ (fun _ k => XS.iconst X0.here hx rfl (hb hby at_10) k)
  show Goes p e below _ (sF s₁ m 11 #[iv p1, iv p2, iv p3, iv p4, iv p5, iv p6, iv wv, .unset, .unset, .unset, .unset, .unset, .unset, .unset, .unset, .unset] [(.int (2 : Int32)), (.int p1)])
  refine Goes.step ?_ (fun _ k => XS.ishr X0.here hx rfl (hb hby at_11) rfl k)
  show Goes p e below _ (sF s₁ m 12 #[iv p1, iv p2, iv p3, iv p4, iv p5, iv p6, iv wv, .unset, .unset, .unset, .unset, .unset, .unset, .unset, .unset, .unset] [(.int (p1 >>> ((2 : Int32) &&& 31)))])
  refine Goes.step ?_ (fun _ k => XS.iconst X0.here hx rfl (hb hby at_12) k)
  show Goes p e below _ (sF s₁ m 13 #[iv p1, iv p2, iv p3, iv p4, iv p5, iv p6, iv wv, .unset, .unset, .unset, .unset, .unset, .unset, .unset, .unset, .unset] [(.int (3 : Int32)), (.int (p1 >>> ((2 : Int32) &&& 31)))])
  refine Goes.step ?_ (fun _ k => XS.iand X0.here hx rfl (hb hby at_13) rfl k)
  show Goes p e below _ (sF s₁ m 14 #[iv p1, iv p2, iv p3, iv p4, iv p5, iv p6, iv wv, .unset, .unset, .unset, .unset, .unset, .unset, .unset, .unset, .unset] [(.int ((p1 >>> ((2 : Int32) &&& 31)) &&& (3 : Int32)))])
  refine Goes.step ?_ (fun _ k => XS.istore X0.here hx rfl (hb hby at_14) rfl (l' := #[iv p1, iv p2, iv p3, iv p4, iv p5, iv p6, iv wv, iv ((p1 >>> ((2 : Int32) &&& 31)) &&& (3 : Int32)), .unset, .unset, .unset, .unset, .unset, .unset, .unset, .unset]) rfl k)
  show Goes p e below _ (sF s₁ m 16 #[iv p1, iv p2, iv p3, iv p4, iv p5, iv p6, iv wv, iv ((p1 >>> ((2 : Int32) &&& 31)) &&& (3 : Int32)), .unset, .unset, .unset, .unset, .unset, .unset, .unset, .unset] [])
  have hnn := own_mask3 (p1 >>> ((2 : Int32) &&& 31))
  obtain ⟨nn, qn⟩ : ∃ z, z = ((p1 >>> ((2 : Int32) &&& 31)) &&& (3 : Int32)) := ⟨_, rfl⟩
  rw [← qn] at hnn ⊢
  show Goes p e below _ (sF s₁ m 16 #[iv p1, iv p2, iv p3, iv p4, iv p5, iv p6, iv wv, iv nn, .unset, .unset, .unset, .unset, .unset, .unset, .unset, .unset] [])
  refine Goes.step ?_ (fun _ k => XS.iloadN X0.here hx rfl (hb hby at_16) rfl  k)
  show Goes p e below _ (sF s₁ m 17 #[iv p1, iv p2, iv p3, iv p4, iv p5, iv p6, iv wv, iv nn, .unset, .unset, .unset, .unset, .unset, .unset, .unset, .unset] [(.int p1)])
  refine Goes.step ?_ (fun _ k => XS.iconst X0.here hx rfl (hb hby at_17) k)
  show Goes p e below _ (sF s₁ m 18 #[iv p1, iv p2, iv p3, iv p4, iv p5, iv p6, iv wv, iv nn, .unset, .unset, .unset, .unset, .unset, .unset, .unset, .unset] [(.int (4 : Int32)), (.int p1)])
  refine Goes.step ?_ (fun _ k => XS.iushr X0.here hx rfl (hb hby at_18) rfl k)
  show Goes p e below _ (sF s₁ m 19 #[iv p1, iv p2, iv p3, iv p4, iv p5, iv p6, iv wv, iv nn, .unset, .unset, .unset, .unset, .unset, .unset, .unset, .unset] [(.int ((p1.toUInt32 >>> ((4 : Int32) &&& 31).toUInt32).toInt32))])
  refine Goes.step ?_ (fun _ k => XS.iload X0.here hx rfl (hb hby at_19) rfl  k)
  show Goes p e below _ (sF s₁ m 21 #[iv p1, iv p2, iv p3, iv p4, iv p5, iv p6, iv wv, iv nn, .unset, .unset, .unset, .unset, .unset, .unset, .unset, .unset] [(.int wv), (.int ((p1.toUInt32 >>> ((4 : Int32) &&& 31).toUInt32).toInt32))])
  refine Goes.step ?_ (fun _ k => iremM X0 hx rfl (hb hby at_21) rfl (own_wnz wv hwv) k)
  show Goes p e below _ (sF s₁ m 22 #[iv p1, iv p2, iv p3, iv p4, iv p5, iv p6, iv wv, iv nn, .unset, .unset, .unset, .unset, .unset, .unset, .unset, .unset] [(.int (((p1.toUInt32 >>> ((4 : Int32) &&& 31).toUInt32).toInt32) % wv))])
  refine Goes.step ?_ (fun _ k => XS.istore X0.here hx rfl (hb hby at_22) rfl (l' := #[iv p1, iv p2, iv p3, iv p4, iv p5, iv p6, iv wv, iv nn, iv (((p1.toUInt32 >>> ((4 : Int32) &&& 31).toUInt32).toInt32) % wv), .unset, .unset, .unset, .unset, .unset, .unset, .unset]) rfl k)
  show Goes p e below _ (sF s₁ m 24 #[iv p1, iv p2, iv p3, iv p4, iv p5, iv p6, iv wv, iv nn, iv (((p1.toUInt32 >>> ((4 : Int32) &&& 31).toUInt32).toInt32) % wv), .unset, .unset, .unset, .unset, .unset, .unset, .unset] [])
  have hwc := own_wc wv _ (own_ush p1) hwv
  obtain ⟨c', qc⟩ : ∃ z, z = (((p1.toUInt32 >>> ((4 : Int32) &&& 31).toUInt32).toInt32) % wv) := ⟨_, rfl⟩
  rw [← qc] at hwc ⊢
  show Goes p e below _ (sF s₁ m 24 #[iv p1, iv p2, iv p3, iv p4, iv p5, iv p6, iv wv, iv nn, iv c', .unset, .unset, .unset, .unset, .unset, .unset, .unset] [])
  refine Goes.step ?_ (fun _ k => XS.iconst X0.here hx rfl (hb hby at_24) k)
  show Goes p e below _ (sF s₁ m 25 #[iv p1, iv p2, iv p3, iv p4, iv p5, iv p6, iv wv, iv nn, iv c', .unset, .unset, .unset, .unset, .unset, .unset, .unset] [(.int (3 : Int32))])
  obtain ⟨T1, h1, k1, X1, e1, E1, A1, st1⟩ := newP X0 hx hZ (hw _ (List.mem_of_getElem? (i := 0) rfl)) e0 (g := (mkF m 25 #[iv p1, iv p2, iv p3, iv p4, iv p5, iv p6, iv wv, iv nn, iv c', .unset, .unset, .unset, .unset, .unset, .unset, .unset] [(.int (3 : Int32))])) rfl (hb hby at_25) rfl (by decide) (cap := 3) (by decide) (by decide) (by decide) (by decide)
  obtain ⟨ob1, g1⟩ : ∃ z, z = h0.size := ⟨_, rfl⟩
  rw [← g1] at A1 st1
  have g_ob1 : n0 ≤ ob1 := Nat.le_trans Z0 (Nat.le_of_eq g1.symm)
  have Zs1 : n0 ≤ h1.size := Nat.le_trans Z0 E1.1
  refine Goes.step ?_ st1
  have V_ob1 : Arv Z h1 ob1 k1 .int (3 : Int32) [(.int (0 : Int32)), (.int (0 : Int32)), (.int (0 : Int32))] (.int (0 : Int32)) := (Arv.new A1 (by decide)).pad (pad_rep [] (.int (0 : Int32)) 3)
  show Goes p e below _ (sF T1 m 27 #[iv p1, iv p2, iv p3, iv p4, iv p5, iv p6, iv wv, iv nn, iv c', .unset, .unset, .unset, .unset, .unset, .unset, .unset] [(.ref ob1)])
  refine Goes.step ?_ (fun _ k => XS.dup X1.here hx rfl (hb hby at_27) rfl rfl k)
  show Goes p e below _ (sF T1 m 28 #[iv p1, iv p2, iv p3, iv p4, iv p5, iv p6, iv wv, iv nn, iv c', .unset, .unset, .unset, .unset, .unset, .unset, .unset] [(.ref ob1), (.ref ob1)])
  refine Goes.step ?_ (fun _ k => XS.iconst X1.here hx rfl (hb hby at_28) k)
  show Goes p e below _ (sF T1 m 29 #[iv p1, iv p2, iv p3, iv p4, iv p5, iv p6, iv wv, iv nn, iv c', .unset, .unset, .unset, .unset, .unset, .unset, .unset] [(.int (0 : Int32)), (.ref ob1), (.ref ob1)])
  refine Goes.step ?_ (fun _ k => XS.iloadN X1.here hx rfl (hb hby at_29) rfl  k)
  show Goes p e below _ (sF T1 m 30 #[iv p1, iv p2, iv p3, iv p4, iv p5, iv p6, iv wv, iv nn, iv c', .unset, .unset, .unset, .unset, .unset, .unset, .unset] [(.int p2), (.int (0 : Int32)), (.ref ob1), (.ref ob1)])
  obtain ⟨cl2, Ar2, q2, S2, N_2, H2, G2⟩ := id V_ob1
  have hin3 : ¬ ((0 : Int32) < 0 ∨ cl2.slots.size ≤ ((0 : Int32)).toNatClampNeg) := inb_of S2 ⟨by decide, by decide⟩
  obtain ⟨T3, h3, X3, e3, W3, st3⟩ := stI X1 hx hZ e1 Ar2 (j := (0 : Int32)) hin3 (g := (mkF m 30 #[iv p1, iv p2, iv p3, iv p4, iv p5, iv p6, iv wv, iv nn, iv c', .unset, .unset, .unset, .unset, .unset, .unset, .unset] [(.int p2), (.int (0 : Int32)), (.ref ob1), (.ref ob1)])) rfl rfl (hb hby at_30)
  have V_3 : Arv Z h3 ob1 k1 .int (3 : Int32) [(.int p2), (.int (0 : Int32)), (.int (0 : Int32))] (.int (0 : Int32)) := Arv.set Ar2 q2 S2 N_2 H2 G2 rfl W3 0 rfl (Nat.le_of_ble_eq_true rfl)
  have Zs3 : n0 ≤ h3.size := Nat.le_trans Zs1 (Keep.of_wr W3).1
  have N3 := Fr.snoc X3 N0 g_ob1
  refine Goes.step ?_ st3
  show Goes p e below _ (sF T3 m 31 #[iv p1, iv p2, iv p3, iv p4, iv p5, iv p6, iv wv, iv nn, iv c', .unset, .unset, .unset, .unset, .unset, .unset, .unset] [(.ref ob1)])
  refine Goes.step ?_ (fun _ k => XS.dup X3.here hx rfl (hb hby at_31) rfl rfl k)
  show Goes p e below _ (sF T3 m 32 #[iv p1, iv p2, iv p3, iv p4, iv p5, iv p6, iv wv, iv nn, iv c', .unset, .unset, .unset, .unset, .unset, .unset, .unset] [(.ref ob1), (.ref ob1)])
  refine Goes.step ?_ (fun _ k => XS.iconst X3.here hx rfl (hb hby at_32) k)
  show Goes p e below _ (sF T3 m 33 #[iv p1, iv p2, iv p3, iv p4, iv p5, iv p6, iv wv, iv nn, iv c', .unset, .unset, .unset, .unset, .unset, .unset, .unset] [(.int (1 : Int32)), (.ref ob1), (.ref ob1)])
  refine Goes.step ?_ (fun _ k => XS.iload X3.here hx rfl (hb hby at_33) rfl  k)
  show Goes p e below _ (sF T3 m 35 #[iv p1, iv p2, iv p3, iv p4, iv p5, iv p6, iv wv, iv nn, iv c', .unset, .unset, .unset, .unset, .unset, .unset, .unset] [(.int p5), (.int (1 : Int32)), (.ref ob1), (.ref ob1)])
  obtain ⟨cl4, Ar4, q4, S4, N_4, H4, G4⟩ := id V_3
  have hin5 : ¬ ((1 : Int32) < 0 ∨ cl4.slots.size ≤ ((1 : Int32)).toNatClampNeg) := inb_of S4 ⟨by decide, by decide⟩
  obtain ⟨T5, h5, X5, e5, W5, st5⟩ := stI X3 hx hZ e3 Ar4 (j := (1 : Int32)) hin5 (g := (mkF m 35 #[iv p1, iv p2, iv p3, iv p4, iv p5, iv p6, iv wv, iv nn, iv c', .unset, .unset, .unset, .unset, .unset, .unset, .unset] [(.int p5), (.int (1 : Int32)), (.ref ob1), (.ref ob1)])) rfl rfl (hb hby at_35)
  have V_5 : Arv Z h5 ob1 k1 .int (3 : Int32) [(.int p2), (.int p5), (.int (0 : Int32))] (.int (0 : Int32)) := Arv.set Ar4 q4 S4 N_4 H4 G4 rfl W5 1 rfl (Nat.le_of_ble_eq_true rfl)
  have Zs5 : n0 ≤ h5.size := Nat.le_trans Zs3 (Keep.of_wr W5).1
  have N5 := Fr.snoc X5 N3 g_ob1
  refine Goes.step ?_ st5
  show Goes p e below _ (sF T5 m 36 #[iv p1, iv p2, iv p3, iv p4, iv p5, iv p6, iv wv, iv nn, iv c', .unset, .unset, .unset, .unset, .unset, .unset, .unset] [(.ref ob1)])
  refine Goes.step ?_ (fun _ k => XS.dup X5.here hx rfl (hb hby at_36) rfl rfl k)
  show Goes p e below _ (sF T5 m 37 #[iv p1, iv p2, iv p3, iv p4, iv p5, iv p6, iv wv, iv nn, iv c', .unset, .unset, .unset, .unset, .unset, .unset, .unset] [(.ref ob1), (.ref ob1)])
  refine Goes.step ?_ (fun _ k => XS.iconst X5.here hx rfl (hb hby at_37) k)
  show Goes p e below _ (sF T5 m 38 #[iv p1, iv p2, iv p3, iv p4, iv p5, iv p6, iv wv, iv nn, iv c', .unset, .unset, .unset, .unset, .unset, .unset, .unset] [(.int (2 : Int32)), (.ref ob1), (.ref ob1)])
  refine Goes.step ?_ (fun _ k => XS.iloadN X5.here hx rfl (hb hby at_38) rfl  k)
  show Goes p e below _ (sF T5 m 39 #[iv p1, iv p2, iv p3, iv p4, iv p5, iv p6, iv wv, iv nn, iv c', .unset, .unset, .unset, .unset, .unset, .unset, .unset] [(.int p3), (.int (2 : Int32)), (.ref ob1), (.ref ob1)])
  refine Goes.step ?_ (fun _ k => XS.iconst X5.here hx rfl (hb hby at_39) k)
  show Goes p e below _ (sF T5 m 40 #[iv p1, iv p2, iv p3, iv p4, iv p5, iv p6, iv wv, iv nn, iv c', .unset, .unset, .unset, .unset, .unset, .unset, .unset] [(.int (-1 : Int32)), (.int p3), (.int (2 : Int32)), (.ref ob1), (.ref ob1)])
  refine Goes.step ?_ (fun _ k => XS.ixor X5.here hx rfl (hb hby at_40) rfl k)
  show Goes p e below _ (sF T5 m 41 #[iv p1, iv p2, iv p3, iv p4, iv p5, iv p6, iv wv, iv nn, iv c', .unset, .unset, .unset, .unset, .unset, .unset, .unset] [(.int (p3 ^^^ (-1 : Int32))), (.int (2 : Int32)), (.ref ob1), (.ref ob1)])
  obtain ⟨cl6, Ar6, q6, S6, N_6, H6, G6⟩ := id V_5
  have hin7 : ¬ ((2 : Int32) < 0 ∨ cl6.slots.size ≤ ((2 : Int32)).toNatClampNeg) := inb_of S6 ⟨by decide, by decide⟩
  obtain ⟨T7, h7, X7, e7, W7, st7⟩ := stI X5 hx hZ e5 Ar6 (j := (2 : Int32)) hin7 (g := (mkF m 41 #[iv p1, iv p2, iv p3, iv p4, iv p5, iv p6, iv wv, iv nn, iv c', .unset, .unset, .unset, .unset, .unset, .unset, .unset] [(.int (p3 ^^^ (-1 : Int32))), (.int (2 : Int32)), (.ref ob1), (.ref ob1)])) rfl rfl (hb hby at_41)
  have V_7 : Arv Z h7 ob1 k1 .int (3 : Int32) [(.int p2), (.int p5), (.int (p3 ^^^ (-1 : Int32)))] (.int (0 : Int32)) := Arv.set Ar6 q6 S6 N_6 H6 G6 rfl W7 2 rfl (Nat.le_of_ble_eq_true rfl)
  have Zs7 : n0 ≤ h7.size := Nat.le_trans Zs5 (Keep.of_wr W7).1
  have N7 := Fr.snoc X7 N5 g_ob1
  refine Goes.step ?_ st7
  show Goes p e below _ (sF T7 m 42 #[iv p1, iv p2, iv p3, iv p4, iv p5, iv p6, iv wv, iv nn, iv c', .unset, .unset, .unset, .unset, .unset, .unset, .unset] [(.ref ob1)])
  refine Goes.step ?_ (fun _ k => XS.astore X7.here hx rfl (hb hby at_42) rfl rfl (l' := #[iv p1, iv p2, iv p3, iv p4, iv p5, iv p6, iv wv, iv nn, iv c', rv ob1, .unset, .unset, .unset, .unset, .unset, .unset]) rfl k)
  show Goes p e below _ (sF T7 m 44 #[iv p1, iv p2, iv p3, iv p4, iv p5, iv p6, iv wv, iv nn, iv c', rv ob1, .unset, .unset, .unset, .unset, .unset, .unset] [])
  refine Goes.step ?_ (fun _ k => XS.iconst X7.here hx rfl (hb hby at_44) k)
  show Goes p e below _ (sF T7 m 45 #[iv p1, iv p2, iv p3, iv p4, iv p5, iv p6, iv wv, iv nn, iv c', rv ob1, .unset, .unset, .unset, .unset, .unset, .unset] [(.int (3 : Int32))])
  obtain ⟨T8, h8, k8, X8, e8, E8, A8, st8⟩ := newP X7 hx hZ (hw _ (List.mem_of_getElem? (i := 0) rfl)) e7 (g := (mkF m 45 #[iv p1, iv p2, iv p3, iv p4, iv p5, iv p6, iv wv, iv nn, iv c', rv ob1, .unset, .unset, .unset, .unset, .unset, .unset] [(.int (3 : Int32))])) rfl (hb hby at_45) rfl (by decide) (cap := 3) (by decide) (by decide) (by decide) (by decide)
  obtain ⟨ob8, g8⟩ : ∃ z, z = h7.size := ⟨_, rfl⟩
  rw [← g8] at A8 st8
  have g_ob8 : n0 ≤ ob8 := Nat.le_trans Zs7 (Nat.le_of_eq g8.symm)
  have ne_ob1_ob8 : ob1 ≠ ob8 := Nat.ne_of_lt (Nat.lt_of_lt_of_le V_7.lt (Nat.le_of_eq g8.symm))
  have Zs8 : n0 ≤ h8.size := Nat.le_trans Zs7 E8.1
  refine Goes.step ?_ st8
  have V_ob8 : Arv Z h8 ob8 k8 .int (3 : Int32) [(.int (0 : Int32)), (.int (0 : Int32)), (.int (0 : Int32))] (.int (0 : Int32)) := (Arv.new A8 (by decide)).pad (pad_rep [] (.int (0 : Int32)) 3)
  show Goes p e below _ (sF T8 m 47 #[iv p1, iv p2, iv p3, iv p4, iv p5, iv p6, iv wv, iv nn, iv c', rv ob1, .unset, .unset, .unset, .unset, .unset, .unset] [(.ref ob8)])
  refine Goes.step ?_ (fun _ k => XS.dup X8.here hx rfl (hb hby at_47) rfl rfl k)
  show Goes p e below _ (sF T8 m 48 #[iv p1, iv p2, iv p3, iv p4, iv p5, iv p6, iv wv, iv nn, iv c', rv ob1, .unset, .unset, .unset, .unset, .unset, .unset] [(.ref ob8), (.ref ob8)])
  refine Goes.step ?_ (fun _ k => XS.iconst X8.here hx rfl (hb hby at_48) k)
  show Goes p e below _ (sF T8 m 49 #[iv p1, iv p2, iv p3, iv p4, iv p5, iv p6, iv wv, iv nn, iv c', rv ob1, .unset, .unset, .unset, .unset, .unset, .unset] [(.int (0 : Int32)), (.ref ob8), (.ref ob8)])
  refine Goes.step ?_ (fun _ k => XS.iloadN X8.here hx rfl (hb hby at_49) rfl  k)
  show Goes p e below _ (sF T8 m 50 #[iv p1, iv p2, iv p3, iv p4, iv p5, iv p6, iv wv, iv nn, iv c', rv ob1, .unset, .unset, .unset, .unset, .unset, .unset] [(.int p3), (.int (0 : Int32)), (.ref ob8), (.ref ob8)])
  obtain ⟨cl9, Ar9, q9, S9, N_9, H9, G9⟩ := id V_ob8
  have hin10 : ¬ ((0 : Int32) < 0 ∨ cl9.slots.size ≤ ((0 : Int32)).toNatClampNeg) := inb_of S9 ⟨by decide, by decide⟩
  obtain ⟨T10, h10, X10, e10, W10, st10⟩ := stI X8 hx hZ e8 Ar9 (j := (0 : Int32)) hin10 (g := (mkF m 50 #[iv p1, iv p2, iv p3, iv p4, iv p5, iv p6, iv wv, iv nn, iv c', rv ob1, .unset, .unset, .unset, .unset, .unset, .unset] [(.int p3), (.int (0 : Int32)), (.ref ob8), (.ref ob8)])) rfl rfl (hb hby at_50)
  have V_10 : Arv Z h10 ob8 k8 .int (3 : Int32) [(.int p3), (.int (0 : Int32)), (.int (0 : Int32))] (.int (0 : Int32)) := Arv.set Ar9 q9 S9 N_9 H9 G9 rfl W10 0 rfl (Nat.le_of_ble_eq_true rfl)
  have Zs10 : n0 ≤ h10.size := Nat.le_trans Zs8 (Keep.of_wr W10).1
  have N10 := Fr.snoc X10 N7 g_ob8
  refine Goes.step ?_ st10
  show Goes p e below _ (sF T10 m 51 #[iv p1, iv p2, iv p3, iv p4, iv p5, iv p6, iv wv, iv nn, iv c', rv ob1, .unset, .unset, .unset, .unset, .unset, .unset] [(.ref ob8)])
  refine Goes.step ?_ (fun _ k => XS.dup X10.here hx rfl (hb hby at_51) rfl rfl k)
  show Goes p e below _ (sF T10 m 52 #[iv p1, iv p2, iv p3, iv p4, iv p5, iv p6, iv wv, iv nn, iv c', rv ob1, .unset, .unset, .unset, .unset, .unset, .unset] [(.ref ob8), (.ref ob8)])
  refine Goes.step ?_ (fun _ k => XS.iconst X10.here hx rfl (hb hby at_52) k)
  show Goes p e below _ (sF T10 m 53 #[iv p1, iv p2, iv p3, iv p4, iv p5, iv p6, iv wv, iv nn, iv c', rv ob1, .unset, .unset, .unset, .unset, .unset, .unset] [(.int (1 : Int32)), (.ref ob8), (.ref ob8)])
  refine Goes.step ?_ (fun _ k => XS.iload X10.here hx rfl (hb hby at_53) rfl  k)
  show Goes p e below _ (sF T10 m 55 #[iv p1, iv p2, iv p3, iv p4, iv p5, iv p6, iv wv, iv nn, iv c', rv ob1, .unset, .unset, .unset, .unset, .unset, .unset] [(.int p6), (.int (1 : Int32)), (.ref ob8), (.ref ob8)])
  obtain ⟨cl11, Ar11, q11, S11, N_11, H11, G11⟩ := id V_10
  have hin12 : ¬ ((1 : Int32) < 0 ∨ cl11.slots.size ≤ ((1 : Int32)).toNatClampNeg) := inb_of S11 ⟨by decide, by decide⟩
  obtain ⟨T12, h12, X12, e12, W12, st12⟩ := stI X10 hx hZ e10 Ar11 (j := (1 : Int32)) hin12 (g := (mkF m 55 #[iv p1, iv p2, iv p3, iv p4, iv p5, iv p6, iv wv, iv nn, iv c', rv ob1, .unset, .unset, .unset, .unset, .unset, .unset] [(.int p6), (.int (1 : Int32)), (.ref ob8), (.ref ob8)])) rfl rfl (hb hby at_55)
  have V_12 : Arv Z h12 ob8 k8 .int (3 : Int32) [(.int p3), (.int p6), (.int (0 : Int32))] (.int (0 : Int32)) := Arv.set Ar11 q11 S11 N_11 H11 G11 rfl W12 1 rfl (Nat.le_of_ble_eq_true rfl)
  have Zs12 : n0 ≤ h12.size := Nat.le_trans Zs10 (Keep.of_wr W12).1
  have N12 := Fr.snoc X12 N10 g_ob8
  refine Goes.step ?_ st12
  show Goes p e below _ (sF T12 m 56 #[iv p1, iv p2, iv p3, iv p4, iv p5, iv p6, iv wv, iv nn, iv c', rv ob1, .unset, .unset, .unset, .unset, .unset, .unset] [(.ref ob8)])
  refine Goes.step ?_ (fun _ k => XS.dup X12.here hx rfl (hb hby at_56) rfl rfl k)
  show Goes p e below _ (sF T12 m 57 #[iv p1, iv p2, iv p3, iv p4, iv p5, iv p6, iv wv, iv nn, iv c', rv ob1, .unset, .unset, .unset, .unset, .unset, .unset] [(.ref ob8), (.ref ob8)])
  refine Goes.step ?_ (fun _ k => XS.iconst X12.here hx rfl (hb hby at_57) k)
  show Goes p e below _ (sF T12 m 58 #[iv p1, iv p2, iv p3, iv p4, iv p5, iv p6, iv wv, iv nn, iv c', rv ob1, .unset, .unset, .unset, .unset, .unset, .unset] [(.int (2 : Int32)), (.ref ob8), (.ref ob8)])
  refine Goes.step ?_ (fun _ k => XS.iloadN X12.here hx rfl (hb hby at_58) rfl  k)
  show Goes p e below _ (sF T12 m 59 #[iv p1, iv p2, iv p3, iv p4, iv p5, iv p6, iv wv, iv nn, iv c', rv ob1, .unset, .unset, .unset, .unset, .unset, .unset] [(.int p4), (.int (2 : Int32)), (.ref ob8), (.ref ob8)])
  refine Goes.step ?_ (fun _ k => XS.iconst X12.here hx rfl (hb hby at_59) k)
  show Goes p e below _ (sF T12 m 60 #[iv p1, iv p2, iv p3, iv p4, iv p5, iv p6, iv wv, iv nn, iv c', rv ob1, .unset, .unset, .unset, .unset, .unset, .unset] [(.int (-1 : Int32)), (.int p4), (.int (2 : Int32)), (.ref ob8), (.ref ob8)])
  refine Goes.step ?_ (fun _ k => XS.ixor X12.here hx rfl (hb hby at_60) rfl k)
  show Goes p e below _ (sF T12 m 61 #[iv p1, iv p2, iv p3, iv p4, iv p5, iv p6, iv wv, iv nn, iv c', rv ob1, .unset, .unset, .unset, .unset, .unset, .unset] [(.int (p4 ^^^ (-1 : Int32))), (.int (2 : Int32)), (.ref ob8), (.ref ob8)])
  obtain ⟨cl13, Ar13, q13, S13, N_13, H13, G13⟩ := id V_12
  have hin14 : ¬ ((2 : Int32) < 0 ∨ cl13.slots.size ≤ ((2 : Int32)).toNatClampNeg) := inb_of S13 ⟨by decide, by decide⟩
  obtain ⟨T14, h14, X14, e14, W14, st14⟩ := stI X12 hx hZ e12 Ar13 (j := (2 : Int32)) hin14 (g := (mkF m 61 #[iv p1, iv p2, iv p3, iv p4, iv p5, iv p6, iv wv, iv nn, iv c', rv ob1, .unset, .unset, .unset, .unset, .unset, .unset] [(.int (p4 ^^^ (-1 : Int32))), (.int (2 : Int32)), (.ref ob8), (.ref ob8)])) rfl rfl (hb hby at_61)
  have V_14 : Arv Z h14 ob8 k8 .int (3 : Int32) [(.int p3), (.int p6), (.int (p4 ^^^ (-1 : Int32)))] (.int (0 : Int32)) := Arv.set Ar13 q13 S13 N_13 H13 G13 rfl W14 2 rfl (Nat.le_of_ble_eq_true rfl)
  have Zs14 : n0 ≤ h14.size := Nat.le_trans Zs12 (Keep.of_wr W14).1
  have N14 := Fr.snoc X14 N12 g_ob8
  refine Goes.step ?_ st14
  show Goes p e below _ (sF T14 m 62 #[iv p1, iv p2, iv p3, iv p4, iv p5, iv p6, iv wv, iv nn, iv c', rv ob1, .unset, .unset, .unset, .unset, .unset, .unset] [(.ref ob8)])
  refine Goes.step ?_ (fun _ k => XS.astore X14.here hx rfl (hb hby at_62) rfl rfl (l' := #[iv p1, iv p2, iv p3, iv p4, iv p5, iv p6, iv wv, iv nn, iv c', rv ob1, rv ob8, .unset, .unset, .unset, .unset, .unset]) rfl k)
  show Goes p e below _ (sF T14 m 64 #[iv p1, iv p2, iv p3, iv p4, iv p5, iv p6, iv wv, iv nn, iv c', rv ob1, rv ob8, .unset, .unset, .unset, .unset, .unset] [])
  refine Goes.step ?_ (fun _ k => XS.iconst X14.here hx rfl (hb hby at_64) k)
  show Goes p e below _ (sF T14 m 65 #[iv p1, iv p2, iv p3, iv p4, iv p5, iv p6, iv wv, iv nn, iv c', rv ob1, rv ob8, .unset, .unset, .unset, .unset, .unset] [(.int (3 : Int32))])
  obtain ⟨T15, h15, k15, X15, e15, E15, A15, st15⟩ := newP X14 hx hZ (hw _ (List.mem_of_getElem? (i := 0) rfl)) e14 (g := (mkF m 65 #[iv p1, iv p2, iv p3, iv p4, iv p5, iv p6, iv wv, iv nn, iv c', rv ob1, rv ob8, .unset, .unset, .unset, .unset, .unset] [(.int (3 : Int32))])) rfl (hb hby at_65) rfl (by decide) (cap := 3) (by decide) (by decide) (by decide) (by decide)
  obtain ⟨ob15, g15⟩ : ∃ z, z = h14.size := ⟨_, rfl⟩
  rw [← g15] at A15 st15
  have g_ob15 : n0 ≤ ob15 := Nat.le_trans Zs14 (Nat.le_of_eq g15.symm)
  have V_ob1_16 := ((((V_7.ext E8).other W10 ne_ob1_ob8).other W12 ne_ob1_ob8).other W14 ne_ob1_ob8)
  have ne_ob1_ob15 : ob1 ≠ ob15 := Nat.ne_of_lt (Nat.lt_of_lt_of_le V_ob1_16.lt (Nat.le_of_eq g15.symm))
  have ne_ob8_ob15 : ob8 ≠ ob15 := Nat.ne_of_lt (Nat.lt_of_lt_of_le V_14.lt (Nat.le_of_eq g15.symm))
  have Zs15 : n0 ≤ h15.size := Nat.le_trans Zs14 E15.1
  refine Goes.step ?_ st15
  have V_ob15 : Arv Z h15 ob15 k15 .int (3 : Int32) [(.int (0 : Int32)), (.int (0 : Int32)), (.int (0 : Int32))] (.int (0 : Int32)) := (Arv.new A15 (by decide)).pad (pad_rep [] (.int (0 : Int32)) 3)
  show Goes p e below _ (sF T15 m 67 #[iv p1, iv p2, iv p3, iv p4, iv p5, iv p6, iv wv, iv nn, iv c', rv ob1, rv ob8, .unset, .unset, .unset, .unset, .unset] [(.ref ob15)])
  refine Goes.step ?_ (fun _ k => XS.dup X15.here hx rfl (hb hby at_67) rfl rfl k)
  show Goes p e below _ (sF T15 m 68 #[iv p1, iv p2, iv p3, iv p4, iv p5, iv p6, iv wv, iv nn, iv c', rv ob1, rv ob8, .unset, .unset, .unset, .unset, .unset] [(.ref ob15), (.ref ob15)])
  refine Goes.step ?_ (fun _ k => XS.iconst X15.here hx rfl (hb hby at_68) k)
  show Goes p e below _ (sF T15 m 69 #[iv p1, iv p2, iv p3, iv p4, iv p5, iv p6, iv wv, iv nn, iv c', rv ob1, rv ob8, .unset, .unset, .unset, .unset, .unset] [(.int (0 : Int32)), (.ref ob15), (.ref ob15)])
  refine Goes.step ?_ (fun _ k => XS.iloadN X15.here hx rfl (hb hby at_69) rfl  k)
  show Goes p e below _ (sF T15 m 70 #[iv p1, iv p2, iv p3, iv p4, iv p5, iv p6, iv wv, iv nn, iv c', rv ob1, rv ob8, .unset, .unset, .unset, .unset, .unset] [(.int p4), (.int (0 : Int32)), (.ref ob15), (.ref ob15)])
  obtain ⟨cl17, Ar17, q17, S17, N_17, H17, G17⟩ := id V_ob15
  have hin18 : ¬ ((0 : Int32) < 0 ∨ cl17.slots.size ≤ ((0 : Int32)).toNatClampNeg) := inb_of S17 ⟨by decide, by decide⟩
  obtain ⟨T18, h18, X18, e18, W18, st18⟩ := stI X15 hx hZ e15 Ar17 (j := (0 : Int32)) hin18 (g := (mkF m 70 #[iv p1, iv p2, iv p3, iv p4, iv p5, iv p6, iv wv, iv nn, iv c', rv ob1, rv ob8, .unset, .unset, .unset, .unset, .unset] [(.int p4), (.int (0 : Int32)), (.ref ob15), (.ref ob15)])) rfl rfl (hb hby at_70)
  have V_18 : Arv Z h18 ob15 k15 .int (3 : Int32) [(.int p4), (.int (0 : Int32)), (.int (0 : Int32))] (.int (0 : Int32)) := Arv.set Ar17 q17 S17 N_17 H17 G17 rfl W18 0 rfl (Nat.le_of_ble_eq_true rfl)
  have Zs18 : n0 ≤ h18.size := Nat.le_trans Zs15 (Keep.of_wr W18).1
  have N18 := Fr.snoc X18 N14 g_ob15
  refine Goes.step ?_ st18
  show Goes p e below _ (sF T18 m 71 #[iv p1, iv p2, iv p3, iv p4, iv p5, iv p6, iv wv, iv nn, iv c', rv ob1, rv ob8, .unset, .unset, .unset, .unset, .unset] [(.ref ob15)])
  refine Goes.step ?_ (fun _ k => XS.dup X18.here hx rfl (hb hby at_71) rfl rfl k)
  show Goes p e below _ (sF T18 m 72 #[iv p1, iv p2, iv p3, iv p4, iv p5, iv p6, iv wv, iv nn, iv c', rv ob1, rv ob8, .unset, .unset, .unset, .unset, .unset] [(.ref ob15), (.ref ob15)])
  refine Goes.step ?_ (fun _ k => XS.iconst X18.here hx rfl (hb hby at_72) k)
  show Goes p e below _ (sF T18 m 73 #[iv p1, iv p2, iv p3, iv p4, iv p5, iv p6, iv wv, iv nn, iv c', rv ob1, rv ob8, .unset, .unset, .unset, .unset, .unset] [(.int (1 : Int32)), (.ref ob15), (.ref ob15)])
  refine Goes.step ?_ (fun _ k => XS.iloadN X18.here hx rfl (hb hby at_73) rfl  k)
  show Goes p e below _ (sF T18 m 74 #[iv p1, iv p2, iv p3, iv p4, iv p5, iv p6, iv wv, iv nn, iv c', rv ob1, rv ob8, .unset, .unset, .unset, .unset, .unset] [(.int p2), (.int (1 : Int32)), (.ref ob15), (.ref ob15)])
  refine Goes.step ?_ (fun _ k => XS.iload X18.here hx rfl (hb hby at_74) rfl  k)
  show Goes p e below _ (sF T18 m 76 #[iv p1, iv p2, iv p3, iv p4, iv p5, iv p6, iv wv, iv nn, iv c', rv ob1, rv ob8, .unset, .unset, .unset, .unset, .unset] [(.int p6), (.int p2), (.int (1 : Int32)), (.ref ob15), (.ref ob15)])
  refine Goes.step ?_ (fun _ k => XS.ixor X18.here hx rfl (hb hby at_76) rfl k)
  show Goes p e below _ (sF T18 m 77 #[iv p1, iv p2, iv p3, iv p4, iv p5, iv p6, iv wv, iv nn, iv c', rv ob1, rv ob8, .unset, .unset, .unset, .unset, .unset] [(.int (p2 ^^^ p6)), (.int (1 : Int32)), (.ref ob15), (.ref ob15)])
  obtain ⟨cl19, Ar19, q19, S19, N_19, H19, G19⟩ := id V_18
  have hin20 : ¬ ((1 : Int32) < 0 ∨ cl19.slots.size ≤ ((1 : Int32)).toNatClampNeg) := inb_of S19 ⟨by decide, by decide⟩
  obtain ⟨T20, h20, X20, e20, W20, st20⟩ := stI X18 hx hZ e18 Ar19 (j := (1 : Int32)) hin20 (g := (mkF m 77 #[iv p1, iv p2, iv p3, iv p4, iv p5, iv p6, iv wv, iv nn, iv c', rv ob1, rv ob8, .unset, .unset, .unset, .unset, .unset] [(.int (p2 ^^^ p6)), (.int (1 : Int32)), (.ref ob15), (.ref ob15)])) rfl rfl (hb hby at_77)
  have V_20 : Arv Z h20 ob15 k15 .int (3 : Int32) [(.int p4), (.int (p2 ^^^ p6)), (.int (0 : Int32))] (.int (0 : Int32)) := Arv.set Ar19 q19 S19 N_19 H19 G19 rfl W20 1 rfl (Nat.le_of_ble_eq_true rfl)
  have Zs20 : n0 ≤ h20.size := Nat.le_trans Zs18 (Keep.of_wr W20).1
  have N20 := Fr.snoc X20 N18 g_ob15
  refine Goes.step ?_ st20
  show Goes p e below _ (sF T20 m 78 #[iv p1, iv p2, iv p3, iv p4, iv p5, iv p6, iv wv, iv nn, iv c', rv ob1, rv ob8, .unset, .unset, .unset, .unset, .unset] [(.ref ob15)])
  refine Goes.step ?_ (fun _ k => XS.dup X20.here hx rfl (hb hby at_78) rfl rfl k)
  show Goes p e below _ (sF T20 m 79 #[iv p1, iv p2, iv p3, iv p4, iv p5, iv p6, iv wv, iv nn, iv c', rv ob1, rv ob8, .unset, .unset, .unset, .unset, .unset] [(.ref ob15), (.ref ob15)])
  refine Goes.step ?_ (fun _ k => XS.iconst X20.here hx rfl (hb hby at_79) k)
  show Goes p e below _ (sF T20 m 80 #[iv p1, iv p2, iv p3, iv p4, iv p5, iv p6, iv wv, iv nn, iv c', rv ob1, rv ob8, .unset, .unset, .unset, .unset, .unset] [(.int (2 : Int32)), (.ref ob15), (.ref ob15)])
  refine Goes.step ?_ (fun _ k => XS.iload X20.here hx rfl (hb hby at_80) rfl  k)
  show Goes p e below _ (sF T20 m 82 #[iv p1, iv p2, iv p3, iv p4, iv p5, iv p6, iv wv, iv nn, iv c', rv ob1, rv ob8, .unset, .unset, .unset, .unset, .unset] [(.int p5), (.int (2 : Int32)), (.ref ob15), (.ref ob15)])
  refine Goes.step ?_ (fun _ k => XS.iconst X20.here hx rfl (hb hby at_82) k)
  show Goes p e below _ (sF T20 m 83 #[iv p1, iv p2, iv p3, iv p4, iv p5, iv p6, iv wv, iv nn, iv c', rv ob1, rv ob8, .unset, .unset, .unset, .unset, .unset] [(.int (-1 : Int32)), (.int p5), (.int (2 : Int32)), (.ref ob15), (.ref ob15)])
  refine Goes.step ?_ (fun _ k => XS.ixor X20.here hx rfl (hb hby at_83) rfl k)
  show Goes p e below _ (sF T20 m 84 #[iv p1, iv p2, iv p3, iv p4, iv p5, iv p6, iv wv, iv nn, iv c', rv ob1, rv ob8, .unset, .unset, .unset, .unset, .unset] [(.int (p5 ^^^ (-1 : Int32))), (.int (2 : Int32)), (.ref ob15), (.ref ob15)])
  obtain ⟨cl21, Ar21, q21, S21, N_21, H21, G21⟩ := id V_20
  have hin22 : ¬ ((2 : Int32) < 0 ∨ cl21.slots.size ≤ ((2 : Int32)).toNatClampNeg) := inb_of S21 ⟨by decide, by decide⟩
  obtain ⟨T22, h22, X22, e22, W22, st22⟩ := stI X20 hx hZ e20 Ar21 (j := (2 : Int32)) hin22 (g := (mkF m 84 #[iv p1, iv p2, iv p3, iv p4, iv p5, iv p6, iv wv, iv nn, iv c', rv ob1, rv ob8, .unset, .unset, .unset, .unset, .unset] [(.int (p5 ^^^ (-1 : Int32))), (.int (2 : Int32)), (.ref ob15), (.ref ob15)])) rfl rfl (hb hby at_84)
  have V_22 : Arv Z h22 ob15 k15 .int (3 : Int32) [(.int p4), (.int (p2 ^^^ p6)), (.int (p5 ^^^ (-1 : Int32)))] (.int (0 : Int32)) := Arv.set Ar21 q21 S21 N_21 H21 G21 rfl W22 2 rfl (Nat.le_of_ble_eq_true rfl)
  have Zs22 : n0 ≤ h22.size := Nat.le_trans Zs20 (Keep.of_wr W22).1
  have N22 := Fr.snoc X22 N20 g_ob15
  refine Goes.step ?_ st22
  show Goes p e below _ (sF T22 m 85 #[iv p1, iv p2, iv p3, iv p4, iv p5, iv p6, iv wv, iv nn, iv c', rv ob1, rv ob8, .unset, .unset, .unset, .unset, .unset] [(.ref ob15)])
  refine Goes.step ?_ (fun _ k => XS.astore X22.here hx rfl (hb hby at_85) rfl rfl (l' := #[iv p1, iv p2, iv p3, iv p4, iv p5, iv p6, iv wv, iv nn, iv c', rv ob1, rv ob8, rv ob15, .unset, .unset, .unset, .unset]) rfl k)
  show Goes p e below _ (sF T22 m 87 #[iv p1, iv p2, iv p3, iv p4, iv p5, iv p6, iv wv, iv nn, iv c', rv ob1, rv ob8, rv ob15, .unset, .unset, .unset, .unset] [])
  obtain ⟨T23, h23, X23, e23, E23, A23, D23, -, st23⟩ := newO X22 hx hZ hown (hw _ (List.mem_of_getElem? (i := 1) rfl)) (hw _ (List.mem_of_getElem? (i := 2) rfl)) (hw _ (List.mem_of_getElem? (i := 3) rfl)) e22 (g := (mkF m 87 #[iv p1, iv p2, iv p3, iv p4, iv p5, iv p6, iv wv, iv nn, iv c', rv ob1, rv ob8, rv ob15, .unset, .unset, .unset, .unset] [])) rfl (hb hby at_87) (by decide) (by decide)
  obtain ⟨ob23, g23⟩ : ∃ z, z = h22.size := ⟨_, rfl⟩
  rw [← g23] at A23 D23 st23
  have g_ob23 : n0 ≤ ob23 := Nat.le_trans Zs22 (Nat.le_of_eq g23.symm)
  have V_ob1_24 := ((((V_ob1_16.ext E15).other W18 ne_ob1_ob15).other W20 ne_ob1_ob15).other W22 ne_ob1_ob15)
  have ne_ob1_ob23 : ob1 ≠ ob23 := Nat.ne_of_lt (Nat.lt_of_lt_of_le V_ob1_24.lt (Nat.le_of_eq g23.symm))
  have V_ob8_25 := ((((V_14.ext E15).other W18 ne_ob8_ob15).other W20 ne_ob8_ob15).other W22 ne_ob8_ob15)
  have ne_ob8_ob23 : ob8 ≠ ob23 := Nat.ne_of_lt (Nat.lt_of_lt_of_le V_ob8_25.lt (Nat.le_of_eq g23.symm))
  have ne_ob15_ob23 : ob15 ≠ ob23 := Nat.ne_of_lt (Nat.lt_of_lt_of_le V_22.lt (Nat.le_of_eq g23.symm))
  have Zs23 : n0 ≤ h23.size := Nat.le_trans Zs22 E23.1
  refine Goes.step ?_ st23
  have F_columns_ob23 : Fld Z h23 ob23 "com/example/clio/clio/repository/Columns" "columns" "[[I" .null := D23 (Or.inr (hw _ (List.mem_of_getElem? (i := 13) rfl))) (ty := (.array (.array .int))) (by decide)
  have F_size_ob23 : Fld Z h23 ob23 "com/example/clio/clio/repository/Columns" "size" "I" (.int (0 : Int32)) := D23 (Or.inl (hw _ (List.mem_of_getElem? (i := 20) rfl))) (ty := .int) (by decide)
  show Goes p e below _ (sF T23 m 90 #[iv p1, iv p2, iv p3, iv p4, iv p5, iv p6, iv wv, iv nn, iv c', rv ob1, rv ob8, rv ob15, .unset, .unset, .unset, .unset] [(.ref ob23)])
  refine Goes.step ?_ (fun _ k => XS.dup X23.here hx rfl (hb hby at_90) rfl rfl k)
  show Goes p e below _ (sF T23 m 91 #[iv p1, iv p2, iv p3, iv p4, iv p5, iv p6, iv wv, iv nn, iv c', rv ob1, rv ob8, rv ob15, .unset, .unset, .unset, .unset] [(.ref ob23), (.ref ob23)])
  refine Goes.step ?_ (fun _ k => XS.iload X23.here hx rfl (hb hby at_91) rfl  k)
  show Goes p e below _ (sF T23 m 93 #[iv p1, iv p2, iv p3, iv p4, iv p5, iv p6, iv wv, iv nn, iv c', rv ob1, rv ob8, rv ob15, .unset, .unset, .unset, .unset] [(.int wv), (.ref ob23), (.ref ob23)])
  clear qw qc
  rcases hwc with ⟨rfl, hc⟩ | ⟨rfl, hc⟩ | ⟨rfl, hc⟩
  · show Goes p e below _ (sF T23 m 93 #[iv p1, iv p2, iv p3, iv p4, iv p5, iv p6, iv (1 : Int32), iv nn, iv c', rv ob1, rv ob8, rv ob15, .unset, .unset, .unset, .unset] [(.int (1 : Int32)), (.ref ob23), (.ref ob23)])
    obtain ⟨_, _, ⟨T26, L26, k26, n26⟩, -, X26, ⟨Lc26, hQ26, l26, y26, z26⟩, st26⟩ := X23.specialBack hx (y := (⟨"com/example/clio/clio/repository/Columns", "<init>", "(I)V"⟩ : MethodName)) rfl hown (mvT hZ (hw _ (List.mem_of_getElem? (i := 4) rfl))) (mvT hZ (hw _ (List.mem_of_getElem? (i := 5) rfl))) (mvT hZ (hw _ (List.mem_of_getElem? (i := 6) rfl))) (by decide) (backOf (W := 1) (rmNew1 l Z a0 hw [] ob23  h23 n0 Zs23 F_columns_ob23 F_size_ob23 A23 g_ob23) hZ (hw _ (List.mem_of_getElem? (i := 6) rfl)) (hw _ (List.mem_of_getElem? (i := 3) rfl)) (by decide) (by decide)) (g := (mkF m 93 #[iv p1, iv p2, iv p3, iv p4, iv p5, iv p6, iv (1 : Int32), iv nn, iv c', rv ob1, rv ob8, rv ob15, .unset, .unset, .unset, .unset] [(.int (1 : Int32)), (.ref ob23), (.ref ob23)])) rfl (by rw [hml]; rfl) (Steps.refl _) (a := ob23) (argsL := [(.int (1 : Int32))]) (rest := [(.ref ob23)]) (lenOf pd__28I_29V rfl) rfl (by show 2 * 0 + _ ≤ _; exact Nat.le_of_eq rfl) (hb hby at_93) (fun _ _ => ⟨rfl, e23, (by decide : 0 + 1 + 1 + 1 + 1 + 2 ≤ _), (by decide : 0 + 3 + 3 + 3 + 2 + 2 ≤ _)⟩)
    dsimp only [Pt.U, Pt.locs, Pt.cells, Pt.slots] at X26 l26 y26 z26 st26 hQ26
    subst l26 y26 z26
    obtain ⟨gA, x0, kA, kx, rfl, N26q, K26, Gc26, Gs26, Vg26, Ov26, gg26, gx0, Vx0_26, Ex0_26, ne_gA_x0⟩ := hQ26
    have N26 := Fr.app N22 N26q
    refine Goes.step ?_ (fun _ k => st26.trans k)
    have g_gA : n0 ≤ gA := Nat.le_trans Zs23 gg26
    have V_ob1_27 := (V_ob1_24.ext E23)
    have ne_ob1_gA : ob1 ≠ gA := Nat.ne_of_lt (Nat.lt_of_lt_of_le V_ob1_27.lt gg26)
    have V_ob8_28 := (V_ob8_25.ext E23)
    have ne_ob8_gA : ob8 ≠ gA := Nat.ne_of_lt (Nat.lt_of_lt_of_le V_ob8_28.lt gg26)
    have V_ob15_29 := (V_22.ext E23)
    have ne_ob15_gA : ob15 ≠ gA := Nat.ne_of_lt (Nat.lt_of_lt_of_le V_ob15_29.lt gg26)
    have ne_ob23_gA : ob23 ≠ gA := Nat.ne_of_lt (Nat.lt_of_lt_of_le A23.lt gg26)
    have g_x0 : n0 ≤ x0 := Nat.le_trans Zs23 gx0
    have ne_ob1_x0 : ob1 ≠ x0 := Nat.ne_of_lt (Nat.lt_of_lt_of_le V_ob1_27.lt gx0)
    have ne_ob8_x0 : ob8 ≠ x0 := Nat.ne_of_lt (Nat.lt_of_lt_of_le V_ob8_28.lt gx0)
    have ne_ob15_x0 : ob15 ≠ x0 := Nat.ne_of_lt (Nat.lt_of_lt_of_le V_ob15_29.lt gx0)
    have ne_ob23_x0 : ob23 ≠ x0 := Nat.ne_of_lt (Nat.lt_of_lt_of_le A23.lt gx0)
    have Zs26 : n0 ≤ T26.heap.size := Nat.le_trans Zs23 K26.1
    show Goes p e below _ (sF T26 m 96 #[iv p1, iv p2, iv p3, iv p4, iv p5, iv p6, iv (1 : Int32), iv nn, iv c', rv ob1, rv ob8, rv ob15, .unset, .unset, .unset, .unset] [(.ref ob23)])
    refine Goes.step ?_ (fun _ k => XS.astore X26.here hx rfl (hb hby at_96) rfl rfl (l' := #[iv p1, iv p2, iv p3, iv p4, iv p5, iv p6, iv (1 : Int32), iv nn, iv c', rv ob1, rv ob8, rv ob15, rv ob23, .unset, .unset, .unset]) rfl k)
    show Goes p e below _ (sF T26 m 98 #[iv p1, iv p2, iv p3, iv p4, iv p5, iv p6, iv (1 : Int32), iv nn, iv c', rv ob1, rv ob8, rv ob15, rv ob23, .unset, .unset, .unset] [])
    have E_ob23_30 := (A23.keep K26)
    have V_ob1_31 := (V_ob1_27.keep K26 (ninS ne_ob1_ob23 nin0))
    have V_ob8_32 := (V_ob8_28.keep K26 (ninS ne_ob8_ob23 nin0))
    have V_ob15_33 := (V_ob15_29.keep K26 (ninS ne_ob15_ob23 nin0))
    exact tail98_1 p1 p2 p3 p4 p5 p6 nn c' ob1 ob8 ob15 k1 k8 k15 ob23 gA kA kx x0 X26 hx hZ hw hby hlk hret hml hown rfl N26 Zs26 hnn hc Gc26 Gs26 E_ob23_30 Vg26 Ov26 Vx0_26 Ex0_26 V_ob1_31 V_ob8_32 V_ob15_33 ne_ob1_ob8 ne_ob1_ob15 ne_ob1_ob23 ne_ob1_gA ne_ob1_x0 ne_ob8_ob15 ne_ob8_ob23 ne_ob8_gA ne_ob8_x0 ne_ob15_ob23 ne_ob15_gA ne_ob15_x0 ne_ob23_gA ne_ob23_x0 ne_gA_x0 g_ob23 g_gA g_x0
  · show Goes p e below _ (sF T23 m 93 #[iv p1, iv p2, iv p3, iv p4, iv p5, iv p6, iv (2 : Int32), iv nn, iv c', rv ob1, rv ob8, rv ob15, .unset, .unset, .unset, .unset] [(.int (2 : Int32)), (.ref ob23), (.ref ob23)])
    obtain ⟨_, _, ⟨T34, L34, k34, n34⟩, -, X34, ⟨Lc34, hQ34, l34, y34, z34⟩, st34⟩ := X23.specialBack hx (y := (⟨"com/example/clio/clio/repository/Columns", "<init>", "(I)V"⟩ : MethodName)) rfl hown (mvT hZ (hw _ (List.mem_of_getElem? (i := 4) rfl))) (mvT hZ (hw _ (List.mem_of_getElem? (i := 5) rfl))) (mvT hZ (hw _ (List.mem_of_getElem? (i := 6) rfl))) (by decide) (backOf (W := 1) (rmNew2 l Z a0 hw [] ob23  h23 n0 Zs23 F_columns_ob23 F_size_ob23 A23 g_ob23) hZ (hw _ (List.mem_of_getElem? (i := 6) rfl)) (hw _ (List.mem_of_getElem? (i := 3) rfl)) (by decide) (by decide)) (g := (mkF m 93 #[iv p1, iv p2, iv p3, iv p4, iv p5, iv p6, iv (2 : Int32), iv nn, iv c', rv ob1, rv ob8, rv ob15, .unset, .unset, .unset, .unset] [(.int (2 : Int32)), (.ref ob23), (.ref ob23)])) rfl (by rw [hml]; rfl) (Steps.refl _) (a := ob23) (argsL := [(.int (2 : Int32))]) (rest := [(.ref ob23)]) (lenOf pd__28I_29V rfl) rfl (by show 2 * 0 + _ ≤ _; exact Nat.le_of_eq rfl) (hb hby at_93) (fun _ _ => ⟨rfl, e23, (by decide : 0 + 1 + 1 + 1 + 1 + 3 ≤ _), (by decide : 0 + 3 + 3 + 3 + 2 + 4 ≤ _)⟩)
    dsimp only [Pt.U, Pt.locs, Pt.cells, Pt.slots] at X34 l34 y34 z34 st34 hQ34
    subst l34 y34 z34
    obtain ⟨gA, x0, x1, kA, kx, rfl, N34q, K34, Gc34, Gs34, Vg34, Ov34, gg34, gx0, Vx0_34, Ex0_34, gx1, Vx1_34, Ex1_34, ne_gA_x0, ne_gA_x1, ne_x0_x1⟩ := hQ34
    have N34 := Fr.app N22 N34q
    refine Goes.step ?_ (fun _ k => st34.trans k)
    have g_gA : n0 ≤ gA := Nat.le_trans Zs23 gg34
    have V_ob1_35 := (V_ob1_24.ext E23)
    have ne_ob1_gA : ob1 ≠ gA := Nat.ne_of_lt (Nat.lt_of_lt_of_le V_ob1_35.lt gg34)
    have V_ob8_36 := (V_ob8_25.ext E23)
    have ne_ob8_gA : ob8 ≠ gA := Nat.ne_of_lt (Nat.lt_of_lt_of_le V_ob8_36.lt gg34)
    have V_ob15_37 := (V_22.ext E23)
    have ne_ob15_gA : ob15 ≠ gA := Nat.ne_of_lt (Nat.lt_of_lt_of_le V_ob15_37.lt gg34)
    have ne_ob23_gA : ob23 ≠ gA := Nat.ne_of_lt (Nat.lt_of_lt_of_le A23.lt gg34)
    have g_x0 : n0 ≤ x0 := Nat.le_trans Zs23 gx0
    have ne_ob1_x0 : ob1 ≠ x0 := Nat.ne_of_lt (Nat.lt_of_lt_of_le V_ob1_35.lt gx0)
    have ne_ob8_x0 : ob8 ≠ x0 := Nat.ne_of_lt (Nat.lt_of_lt_of_le V_ob8_36.lt gx0)
    have ne_ob15_x0 : ob15 ≠ x0 := Nat.ne_of_lt (Nat.lt_of_lt_of_le V_ob15_37.lt gx0)
    have ne_ob23_x0 : ob23 ≠ x0 := Nat.ne_of_lt (Nat.lt_of_lt_of_le A23.lt gx0)
    have g_x1 : n0 ≤ x1 := Nat.le_trans Zs23 gx1
    have ne_ob1_x1 : ob1 ≠ x1 := Nat.ne_of_lt (Nat.lt_of_lt_of_le V_ob1_35.lt gx1)
    have ne_ob8_x1 : ob8 ≠ x1 := Nat.ne_of_lt (Nat.lt_of_lt_of_le V_ob8_36.lt gx1)
    have ne_ob15_x1 : ob15 ≠ x1 := Nat.ne_of_lt (Nat.lt_of_lt_of_le V_ob15_37.lt gx1)
    have ne_ob23_x1 : ob23 ≠ x1 := Nat.ne_of_lt (Nat.lt_of_lt_of_le A23.lt gx1)
    have Zs34 : n0 ≤ T34.heap.size := Nat.le_trans Zs23 K34.1
    show Goes p e below _ (sF T34 m 96 #[iv p1, iv p2, iv p3, iv p4, iv p5, iv p6, iv (2 : Int32), iv nn, iv c', rv ob1, rv ob8, rv ob15, .unset, .unset, .unset, .unset] [(.ref ob23)])
    refine Goes.step ?_ (fun _ k => XS.astore X34.here hx rfl (hb hby at_96) rfl rfl (l' := #[iv p1, iv p2, iv p3, iv p4, iv p5, iv p6, iv (2 : Int32), iv nn, iv c', rv ob1, rv ob8, rv ob15, rv ob23, .unset, .unset, .unset]) rfl k)
    show Goes p e below _ (sF T34 m 98 #[iv p1, iv p2, iv p3, iv p4, iv p5, iv p6, iv (2 : Int32), iv nn, iv c', rv ob1, rv ob8, rv ob15, rv ob23, .unset, .unset, .unset] [])
    have E_ob23_38 := (A23.keep K34)
    have V_ob1_39 := (V_ob1_35.keep K34 (ninS ne_ob1_ob23 nin0))
    have V_ob8_40 := (V_ob8_36.keep K34 (ninS ne_ob8_ob23 nin0))
    have V_ob15_41 := (V_ob15_37.keep K34 (ninS ne_ob15_ob23 nin0))
    exact tail98_2 p1 p2 p3 p4 p5 p6 nn c' ob1 ob8 ob15 k1 k8 k15 ob23 gA kA kx x0 x1 X34 hx hZ hw hby hlk hret hml hown rfl N34 Zs34 hnn hc Gc34 Gs34 E_ob23_38 Vg34 Ov34 Vx0_34 Ex0_34 Vx1_34 Ex1_34 V_ob1_39 V_ob8_40 V_ob15_41 ne_ob1_ob8 ne_ob1_ob15 ne_ob1_ob23 ne_ob1_gA ne_ob1_x0 ne_ob1_x1 ne_ob8_ob15 ne_ob8_ob23 ne_ob8_gA ne_ob8_x0 ne_ob8_x1 ne_ob15_ob23 ne_ob15_gA ne_ob15_x0 ne_ob15_x1 ne_ob23_gA ne_ob23_x0 ne_ob23_x1 ne_gA_x0 ne_gA_x1 ne_x0_x1 g_ob23 g_gA g_x0 g_x1
  · show Goes p e below _ (sF T23 m 93 #[iv p1, iv p2, iv p3, iv p4, iv p5, iv p6, iv (3 : Int32), iv nn, iv c', rv ob1, rv ob8, rv ob15, .unset, .unset, .unset, .unset] [(.int (3 : Int32)), (.ref ob23), (.ref ob23)])
    obtain ⟨_, _, ⟨T42, L42, k42, n42⟩, -, X42, ⟨Lc42, hQ42, l42, y42, z42⟩, st42⟩ := X23.specialBack hx (y := (⟨"com/example/clio/clio/repository/Columns", "<init>", "(I)V"⟩ : MethodName)) rfl hown (mvT hZ (hw _ (List.mem_of_getElem? (i := 4) rfl))) (mvT hZ (hw _ (List.mem_of_getElem? (i := 5) rfl))) (mvT hZ (hw _ (List.mem_of_getElem? (i := 6) rfl))) (by decide) (backOf (W := 1) (rmNew3 l Z a0 hw [] ob23  h23 n0 Zs23 F_columns_ob23 F_size_ob23 A23 g_ob23) hZ (hw _ (List.mem_of_getElem? (i := 6) rfl)) (hw _ (List.mem_of_getElem? (i := 3) rfl)) (by decide) (by decide)) (g := (mkF m 93 #[iv p1, iv p2, iv p3, iv p4, iv p5, iv p6, iv (3 : Int32), iv nn, iv c', rv ob1, rv ob8, rv ob15, .unset, .unset, .unset, .unset] [(.int (3 : Int32)), (.ref ob23), (.ref ob23)])) rfl (by rw [hml]; rfl) (Steps.refl _) (a := ob23) (argsL := [(.int (3 : Int32))]) (rest := [(.ref ob23)]) (lenOf pd__28I_29V rfl) rfl (by show 2 * 0 + _ ≤ _; exact Nat.le_of_eq rfl) (hb hby at_93) (fun _ _ => ⟨rfl, e23, (by decide : 0 + 1 + 1 + 1 + 1 + 4 ≤ _), (by decide : 0 + 3 + 3 + 3 + 2 + 6 ≤ _)⟩)
    dsimp only [Pt.U, Pt.locs, Pt.cells, Pt.slots] at X42 l42 y42 z42 st42 hQ42
    subst l42 y42 z42
    obtain ⟨gA, x0, x1, x2, kA, kx, rfl, N42q, K42, Gc42, Gs42, Vg42, Ov42, gg42, gx0, Vx0_42, Ex0_42, gx1, Vx1_42, Ex1_42, gx2, Vx2_42, Ex2_42, ne_gA_x0, ne_gA_x1, ne_gA_x2, ne_x0_x1, ne_x0_x2, ne_x1_x2⟩ := hQ42
    have N42 := Fr.app N22 N42q
    refine Goes.step ?_ (fun _ k => st42.trans k)
    have g_gA : n0 ≤ gA := Nat.le_trans Zs23 gg42
    have V_ob1_43 := (V_ob1_24.ext E23)
    have ne_ob1_gA : ob1 ≠ gA := Nat.ne_of_lt (Nat.lt_of_lt_of_le V_ob1_43.lt gg42)
    have V_ob8_44 := (V_ob8_25.ext E23)
    have ne_ob8_gA : ob8 ≠ gA := Nat.ne_of_lt (Nat.lt_of_lt_of_le V_ob8_44.lt gg42)
    have V_ob15_45 := (V_22.ext E23)
    have ne_ob15_gA : ob15 ≠ gA := Nat.ne_of_lt (Nat.lt_of_lt_of_le V_ob15_45.lt gg42)
    have ne_ob23_gA : ob23 ≠ gA := Nat.ne_of_lt (Nat.lt_of_lt_of_le A23.lt gg42)
    have g_x0 : n0 ≤ x0 := Nat.le_trans Zs23 gx0
    have ne_ob1_x0 : ob1 ≠ x0 := Nat.ne_of_lt (Nat.lt_of_lt_of_le V_ob1_43.lt gx0)
    have ne_ob8_x0 : ob8 ≠ x0 := Nat.ne_of_lt (Nat.lt_of_lt_of_le V_ob8_44.lt gx0)
    have ne_ob15_x0 : ob15 ≠ x0 := Nat.ne_of_lt (Nat.lt_of_lt_of_le V_ob15_45.lt gx0)
    have ne_ob23_x0 : ob23 ≠ x0 := Nat.ne_of_lt (Nat.lt_of_lt_of_le A23.lt gx0)
    have g_x1 : n0 ≤ x1 := Nat.le_trans Zs23 gx1
    have ne_ob1_x1 : ob1 ≠ x1 := Nat.ne_of_lt (Nat.lt_of_lt_of_le V_ob1_43.lt gx1)
    have ne_ob8_x1 : ob8 ≠ x1 := Nat.ne_of_lt (Nat.lt_of_lt_of_le V_ob8_44.lt gx1)
    have ne_ob15_x1 : ob15 ≠ x1 := Nat.ne_of_lt (Nat.lt_of_lt_of_le V_ob15_45.lt gx1)
    have ne_ob23_x1 : ob23 ≠ x1 := Nat.ne_of_lt (Nat.lt_of_lt_of_le A23.lt gx1)
    have g_x2 : n0 ≤ x2 := Nat.le_trans Zs23 gx2
    have ne_ob1_x2 : ob1 ≠ x2 := Nat.ne_of_lt (Nat.lt_of_lt_of_le V_ob1_43.lt gx2)
    have ne_ob8_x2 : ob8 ≠ x2 := Nat.ne_of_lt (Nat.lt_of_lt_of_le V_ob8_44.lt gx2)
    have ne_ob15_x2 : ob15 ≠ x2 := Nat.ne_of_lt (Nat.lt_of_lt_of_le V_ob15_45.lt gx2)
    have ne_ob23_x2 : ob23 ≠ x2 := Nat.ne_of_lt (Nat.lt_of_lt_of_le A23.lt gx2)
    have Zs42 : n0 ≤ T42.heap.size := Nat.le_trans Zs23 K42.1
    show Goes p e below _ (sF T42 m 96 #[iv p1, iv p2, iv p3, iv p4, iv p5, iv p6, iv (3 : Int32), iv nn, iv c', rv ob1, rv ob8, rv ob15, .unset, .unset, .unset, .unset] [(.ref ob23)])
    refine Goes.step ?_ (fun _ k => XS.astore X42.here hx rfl (hb hby at_96) rfl rfl (l' := #[iv p1, iv p2, iv p3, iv p4, iv p5, iv p6, iv (3 : Int32), iv nn, iv c', rv ob1, rv ob8, rv ob15, rv ob23, .unset, .unset, .unset]) rfl k)
    show Goes p e below _ (sF T42 m 98 #[iv p1, iv p2, iv p3, iv p4, iv p5, iv p6, iv (3 : Int32), iv nn, iv c', rv ob1, rv ob8, rv ob15, rv ob23, .unset, .unset, .unset] [])
    have E_ob23_46 := (A23.keep K42)
    have V_ob1_47 := (V_ob1_43.keep K42 (ninS ne_ob1_ob23 nin0))
    have V_ob8_48 := (V_ob8_44.keep K42 (ninS ne_ob8_ob23 nin0))
    have V_ob15_49 := (V_ob15_45.keep K42 (ninS ne_ob15_ob23 nin0))
    exact tail98_3 p1 p2 p3 p4 p5 p6 nn c' ob1 ob8 ob15 k1 k8 k15 ob23 gA kA kx x0 x1 x2 X42 hx hZ hw hby hlk hret hml hown rfl N42 Zs42 hnn hc Gc42 Gs42 E_ob23_46 Vg42 Ov42 Vx0_42 Ex0_42 Vx1_42 Ex1_42 Vx2_42 Ex2_42 V_ob1_47 V_ob8_48 V_ob15_49 ne_ob1_ob8 ne_ob1_ob15 ne_ob1_ob23 ne_ob1_gA ne_ob1_x0 ne_ob1_x1 ne_ob1_x2 ne_ob8_ob15 ne_ob8_ob23 ne_ob8_gA ne_ob8_x0 ne_ob8_x1 ne_ob8_x2 ne_ob15_ob23 ne_ob15_gA ne_ob15_x0 ne_ob15_x1 ne_ob15_x2 ne_ob23_gA ne_ob23_x0 ne_ob23_x1 ne_ob23_x2 ne_gA_x0 ne_gA_x1 ne_gA_x2 ne_x0_x1 ne_x0_x2 ne_x1_x2 g_ob23 g_gA g_x0 g_x1 g_x2
set_option maxRecDepth 65536 in
set_option maxHeartbeats 40000000 in
theorem comes_1 {Post : Tables → Env → Array Value → State → Outcome → State → Prop} (hpost : ∀ tb e args s v u, (limb_1_1.after args s (.returned v) u = true ∧ limb_1_2.after args s (.returned v) u = true ∧ True) → FrameEnd s (.returned v) u (Jvm.fieldLocs frame_1_writes args s ++ Jvm.arrayLocs frame_1_arrays args s ++ Jvm.staticLocs frame_1_statics s) 40 192 → Post tb e args s (.returned v) u) :
    ArmFor flags0 classFile x code maxLocals ret World_1 tables_1 room_1 Calls_1 rest_1 Pre_1 Post := by
  intro l hfl _ _ p e ha hc hk s m args below hf hA hF happ hP
  obtain ⟨hcalls, hrest, hpre⟩ := hP
  obtain ⟨-, -, -, hnamed, -, -, -, hat⟩ := (Spec.applies_iff hf).mp happ
  obtain ⟨hg, hn⟩ := and_e (Cond.before_iff.mp (show (Jvm.Cond.and given_1 narrow_1).before args s = true from hpre))
  obtain ⟨hcnt, g0⟩ := and_e hg
  obtain ⟨ga0, g1⟩ := and_e g0
  obtain ⟨ga1, g2⟩ := and_e g1
  obtain ⟨ga2, g3⟩ := and_e g2
  obtain ⟨ga3, g4⟩ := and_e g3
  obtain ⟨ga4, g5⟩ := and_e g4
  have ga5 := g5
  obtain ⟨w0, w1, w2, w3, w4, w5, rfl⟩ : ∃ w0 w1 w2 w3 w4 w5 : Value, args = #[w0, w1, w2, w3, w4, w5] := by
    have hs : args.size = 6 := by simpa [Cond.value, given_1] using hcnt
    obtain ⟨L⟩ := args
    match L, hs with
    | [w0, w1, w2, w3, w4, w5], _ => exact ⟨w0, w1, w2, w3, w4, w5, rfl⟩
  have hw := fun d (hd : d ∈ tables_1) => atoms_spec (ws := Jvm.Cond.code x code maxLocals ret :: tables_1) hat d (List.mem_cons_of_mem _ hd)
  have hfit : Fit s := fun {y c} hc i hi => by
    obtain ⟨ha, rfl⟩ := Array.getElem?_eq_some_iff.mp hc
    have q := List.all_eq_true.mp ((Array.all_eq_true_iff_forall_mem.mp hF) _ (Array.getElem_mem ha)) i (List.mem_range.mpr hi)
    simpa [Array.getElem?_eq_getElem hi] using q
  obtain ⟨i0, ei0⟩ := is_v ga0
  obtain rfl : w0 = (.int i0) := Option.some.inj ei0
  obtain ⟨i1, ei1⟩ := is_v ga1
  obtain rfl : w1 = (.int i1) := Option.some.inj ei1
  obtain ⟨i2, ei2⟩ := is_v ga2
  obtain rfl : w2 = (.int i2) := Option.some.inj ei2
  obtain ⟨i3, ei3⟩ := is_v ga3
  obtain rfl : w3 = (.int i3) := Option.some.inj ei3
  obtain ⟨i4, ei4⟩ := is_v ga4
  obtain rfl : w4 = (.int i4) := Option.some.inj ei4
  obtain ⟨i5, ei5⟩ := is_v ga5
  obtain rfl : w5 = (.int i5) := Option.some.inj ei5
  obtain ⟨n, o, h1, h2, h3, _, L, rfl, ⟨rfl, N⟩, hq⟩ := rm0 l s _ hw tables_1 i0 i1 i2 i3 i4 i5 s.heap s.heap.size (Nat.le_refl _) p e ha hc hk s m _ below hf ((Spec.applies_iff_loose hf).mp happ).1 ⟨rfl, State.Warmed39.refl s, rfl⟩ trivial
  refine ⟨n, _, h1, h2, h3, hpost _ _ _ _ _ _ ⟨Cond.after_iff.mpr rfl, Cond.after_iff.mpr (eq_i res_at (Term.int_eval (1)) rfl), trivial⟩ ⟨hq.1, hq.2.1, (hq.2.2.sift fun y hy => Or.inr (N y hy)).mono (by decide) (by decide)⟩⟩
theorem main_1_1 : Claimed_1_1 := comes_1 fun _ _ _ _ _ _ h hF => ⟨h.1, hF⟩
theorem main_1_2 : Claimed_1_2 := comes_1 fun _ _ _ _ _ _ h hF => ⟨h.2.1, hF⟩
end Jvm.Pilot.@@N@@
namespace Jvm.Pilot.@@N@@
open Jvm Jvm.ClassFile Sem Op Lib Jvm.Free Jvm.Stand Jvm.Pilot.@@N@@.Jvm.D
/-! MADE BY PROGRAM (witnessworld.py) out of the Statement's table words and the real class files: 12 classes; the members and pool entries that the words name. The judged class is class 1, her method 1. -/
namespace start1
open Jvm.ClassFile
def u (s : String) : CpInfo := .utf8 (stringToUtf16 s)
/-- a pool by its gaps: so many unusable entries, then the entry; so many at the end -/
def gap : Nat → List CpInfo → List CpInfo
  | 0, r => r
  | n + 1, r => .unusable :: gap n r
def poolList (es : List (Nat × CpInfo)) (last : Nat) : List CpInfo := es.foldr (fun e r => gap e.1 (e.2 :: r)) (gap last [])
def pool (es : List (Nat × CpInfo)) (last : Nat) : Array CpInfo := ⟨poolList es last⟩
def fileOf (pool : Array CpInfo) (this : Nat) (attrs : Array Attribute := #[]) (ms : Array MethodInfo := #[]) (fl : Nat := 33) (sup : Nat := 0) (ifs : Array Nat := #[]) (fds : Array FieldInfo := #[]) : ClassFile where
  minorVersion := 0
  majorVersion := 65
  constantPool := pool
  accessFlags := fl
  thisClass := this
  superClass := sup
  interfaces := ifs
  fields := fds
  methods := ms
  attributes := attrs
def plain (name : String) (sup : Option ClassId) : Class where
  name := name
  kind := .ordinary
  loader := none
  accessFlags := 33
  super := sup
  interfaces := #[]
  cf := none
  fields := #[]
  methods := #[]
  instanceTypes := #[]
  staticTypes := #[]
  resolved := #[]
  callSites := []
  init := .initialized
  statics := none
  mirror := none

def pool0 : Array CpInfo := pool [(5, u "<init>"), (0, u "()V"), (1, .class_ 10), (1, u "java/lang/Object"), (85, u "clone"), (0, u "()Ljava/lang/Object;")] 26

def k0c0 : Code := { maxStack := 0, maxLocals := 1, code := object_method_1_code, exceptionTable := #[], attributes := #[] }
def k0m0 : Method := { name := "<init>", desc := "()V", sig := { parameters := [], returnType := none }, accessFlags := 1, code := some k0c0 }
def k0m1 : Method := { name := "clone", desc := "()Ljava/lang/Object;", sig := { parameters := [], returnType := some (.object "java/lang/Object") }, accessFlags := 260, code := none }
/-- java/lang/Object -/
def k0 : Class := { plain "java/lang/Object" none with
  accessFlags := 33
  interfaces := #[]
  cf := some (fileOf pool0 8 #[] #[{ accessFlags := 1, nameIndex := 5, descriptorIndex := 6, attributes := #[] }, { accessFlags := 260, nameIndex := 96, descriptorIndex := 97, attributes := #[] }] 33 0 #[] #[])
  fields := #[]
  methods := #[k0m0, k0m1]
  instanceTypes := #[]
  staticTypes := #[]
  resolved := Array.replicate 124 none
  statics := none }

def pool1 : Array CpInfo := pool [(2, .class_ 4), (1, u "java/lang/Object"), (0, u "<init>"), (0, u "()V"), (0, .class_ 8), (0, u "com/example/clio/clio/repository/Columns"), (0, .methodref 7 10), (0, .nameAndType 5 11), (0, u "(I)V"), (0, .methodref 7 13), (0, .nameAndType 14 15), (0, u "add"), (0, u "([I)V"), (0, .methodref 7 17), (0, .nameAndType 18 19), (0, u "column"), (0, u "(I)[I"), (0, .methodref 7 21), (0, .nameAndType 22 23), (0, u "size"), (0, u "()I"), (0, .class_ 25), (0, u "com/example/clio/clio/repository/ColumnsColumnPinLaw"), (2, u "law"), (0, u "(IIIIII)Z")] 5

def k1m0 : Method := { name := "<init>", desc := "()V", sig := { parameters := [], returnType := none }, accessFlags := 2, code := none }
def k1c1 : Code := { maxStack := 5, maxLocals := 16, code := code, exceptionTable := #[], attributes := #[] }
def k1m1 : Method := { name := "law", desc := "(IIIIII)Z", sig := { parameters := [.int, .int, .int, .int, .int, .int], returnType := some .boolean }, accessFlags := 9, code := some k1c1 }
/-- com/example/clio/clio/repository/ColumnsColumnPinLaw -/
def k1 : Class := { plain "com/example/clio/clio/repository/ColumnsColumnPinLaw" (some 0) with
  accessFlags := 49
  interfaces := #[]
  cf := some (fileOf pool1 24 #[] #[{ accessFlags := 2, nameIndex := 5, descriptorIndex := 6, attributes := #[] }, { accessFlags := 9, nameIndex := 28, descriptorIndex := 29, attributes := #[] }] 49 2 #[] #[])
  fields := #[]
  methods := #[k1m0, k1m1]
  instanceTypes := #[]
  staticTypes := #[]
  resolved := Array.replicate 35 none
  statics := none }

def pool2 : Array CpInfo := pool [(1, .methodref 2 3), (0, .class_ 4), (0, .nameAndType 5 6), (0, u "java/lang/Object"), (0, u "<init>"), (0, u "()V"), (0, .class_ 8), (0, u "[[I"), (0, .fieldref 10 11), (0, .class_ 12), (0, .nameAndType 13 8), (0, u "com/example/clio/clio/repository/Columns"), (0, u "columns"), (0, .fieldref 10 15), (0, .nameAndType 16 17), (0, u "size"), (0, u "I"), (0, .methodref 19 20), (0, .class_ 21), (0, .nameAndType 22 23), (0, u "java/util/Arrays"), (0, u "copyOf"), (0, u "([II)[I"), (0, u "(I)V"), (2, u "add"), (0, u "([I)V"), (1, u "()I"), (0, u "column"), (0, u "(I)[I")] 2

def k2c0 : Code := { maxStack := 3, maxLocals := 2, code := prog_22_method_1_code, exceptionTable := #[], attributes := #[] }
def k2m0 : Method := { name := "<init>", desc := "(I)V", sig := { parameters := [.int], returnType := none }, accessFlags := 0, code := some k2c0 }
def k2c1 : Code := { maxStack := 5, maxLocals := 3, code := prog_22_method_2_code, exceptionTable := #[], attributes := #[] }
def k2m1 : Method := { name := "add", desc := "([I)V", sig := { parameters := [(.array .int)], returnType := none }, accessFlags := 128, code := some k2c1 }
def k2c2 : Code := { maxStack := 1, maxLocals := 1, code := prog_22_method_3_code, exceptionTable := #[], attributes := #[] }
def k2m2 : Method := { name := "size", desc := "()I", sig := { parameters := [], returnType := some .int }, accessFlags := 0, code := some k2c2 }
def k2c3 : Code := { maxStack := 2, maxLocals := 2, code := prog_22_method_4_code, exceptionTable := #[], attributes := #[] }
def k2m3 : Method := { name := "column", desc := "(I)[I", sig := { parameters := [.int], returnType := some (.array .int) }, accessFlags := 0, code := some k2c3 }
/-- com/example/clio/clio/repository/Columns -/
def k2 : Class := { plain "com/example/clio/clio/repository/Columns" (some 0) with
  accessFlags := 48
  interfaces := #[]
  cf := some (fileOf pool2 10 #[] #[{ accessFlags := 0, nameIndex := 5, descriptorIndex := 24, attributes := #[] }, { accessFlags := 128, nameIndex := 27, descriptorIndex := 28, attributes := #[] }, { accessFlags := 0, nameIndex := 16, descriptorIndex := 30, attributes := #[] }, { accessFlags := 0, nameIndex := 31, descriptorIndex := 32, attributes := #[] }] 48 2 #[] #[{ accessFlags := 18, nameIndex := 13, descriptorIndex := 8, attributes := #[] }, { accessFlags := 2, nameIndex := 16, descriptorIndex := 17, attributes := #[] }])
  fields := #[{ name := "columns", type := (.array (.array .int)), accessFlags := 18, slot := 0, constantValue := 0 }, { name := "size", type := .int, accessFlags := 2, slot := 1, constantValue := 0 }]
  methods := #[k2m0, k2m1, k2m2, k2m3]
  instanceTypes := #[(.array (.array .int)), .int]
  staticTypes := #[]
  resolved := Array.replicate 35 none
  statics := none }

def pool3 : Array CpInfo := pool [(2, .class_ 4), (1, u "java/lang/Object"), (0, u "<init>"), (0, u "()V"), (7, .class_ 16), (1, u "java/util/Arrays"), (57, .class_ 76), (1, u "java/util/Arrays$NaturalOrder"), (32, u "()Ljava/lang/Object;"), (3, .class_ 115), (1, u "java/util/Arrays$LegacyMergeSort"), (1, u "Z"), (10, .nameAndType 129 109), (0, u "clone"), (20, .methodref 151 152), (0, .class_ 153), (0, .nameAndType 154 155), (0, u "java/lang/System"), (0, u "arraycopy"), (0, u "(Ljava/lang/Object;ILjava/lang/Object;II)V"), (146, u "copyOf"), (1, .methodref 305 306), (0, .class_ 307), (0, .nameAndType 308 309), (0, u "java/lang/Math"), (0, u "min"), (0, u "(II)I"), (6, .methodref 317 128), (0, .class_ 318), (0, u "[I"), (56, .class_ 376), (0, u "java/util/Arrays$ArrayList"), (68, u "$assertionsDisabled"), (269, u "MIN_ARRAY_SORT_GRAN"), (0, u "I"), (2, u "INSERTIONSORT_THRESHOLD"), (151, u "([II)[I"), (103, .class_ 976), (0, u "java/util/Arrays$ArrayItr")] 52

def k3m0 : Method := { name := "<init>", desc := "()V", sig := { parameters := [], returnType := none }, accessFlags := 2, code := none }
def k3c1 : Code := { maxStack := 6, maxLocals := 3, code := jdk_65_method_123_code, exceptionTable := #[], attributes := #[] }
def k3m1 : Method := { name := "copyOf", desc := "([II)[I", sig := { parameters := [(.array .int), .int], returnType := some (.array .int) }, accessFlags := 9, code := some k3c1 }
/-- java/util/Arrays -/
def k3 : Class := { plain "java/util/Arrays" (some 0) with
  accessFlags := 49
  interfaces := #[]
  cf := some (fileOf pool3 14 #[.nestMembers #[975, 375, 113, 74]] #[{ accessFlags := 2, nameIndex := 5, descriptorIndex := 6, attributes := #[] }, { accessFlags := 9, nameIndex := 302, descriptorIndex := 871, attributes := #[] }] 49 2 #[] #[{ accessFlags := 26, nameIndex := 715, descriptorIndex := 716, attributes := #[] }, { accessFlags := 26, nameIndex := 719, descriptorIndex := 716, attributes := #[] }, { accessFlags := 4120, nameIndex := 445, descriptorIndex := 117, attributes := #[] }])
  fields := #[{ name := "MIN_ARRAY_SORT_GRAN", type := .int, accessFlags := 26, slot := 0, constantValue := 0 }, { name := "INSERTIONSORT_THRESHOLD", type := .int, accessFlags := 26, slot := 1, constantValue := 0 }, { name := "$assertionsDisabled", type := .boolean, accessFlags := 4120, slot := 2, constantValue := 0 }]
  methods := #[k3m0, k3m1]
  instanceTypes := #[]
  staticTypes := #[.int, .int, .boolean]
  resolved := Array.replicate 1029 none
  statics := none }

def pool4 : Array CpInfo := pool [(1, .class_ 2), (0, u "java/lang/Math"), (1, .class_ 6), (1, u "java/lang/Object"), (0, u "<init>"), (0, u "()V"), (89, .class_ 100), (1, u "java/lang/Math$RandomNumberGeneratorHolder"), (71, u "negativeZeroFloatBits"), (0, u "J"), (2, u "negativeZeroDoubleBits"), (24, u "min"), (43, u "$assertionsDisabled"), (0, u "Z"), (88, u "(II)I"), (2, u "twoToTheDoubleScaleDown"), (0, u "D"), (4, u "twoToTheDoubleScaleUp"), (9, u "E"), (3, u "PI"), (2, u "TAU"), (2, u "DEGREES_TO_RADIANS"), (0, u "RADIANS_TO_DEGREES")] 94

def k4m0 : Method := { name := "<init>", desc := "()V", sig := { parameters := [], returnType := none }, accessFlags := 2, code := none }
def k4c1 : Code := { maxStack := 2, maxLocals := 2, code := jdk_29_method_69_code, exceptionTable := #[], attributes := #[] }
def k4m1 : Method := { name := "min", desc := "(II)I", sig := { parameters := [.int, .int], returnType := some .int }, accessFlags := 9, code := some k4c1 }
/-- java/lang/Math -/
def k4 : Class := { plain "java/lang/Math" (some 0) with
  accessFlags := 49
  interfaces := #[]
  cf := some (fileOf pool4 1 #[.nestMembers #[98]] #[{ accessFlags := 2, nameIndex := 7, descriptorIndex := 8, attributes := #[] }, { accessFlags := 9, nameIndex := 201, descriptorIndex := 335, attributes := #[] }] 49 4 #[] #[{ accessFlags := 25, nameIndex := 354, descriptorIndex := 339, attributes := #[] }, { accessFlags := 25, nameIndex := 358, descriptorIndex := 339, attributes := #[] }, { accessFlags := 25, nameIndex := 361, descriptorIndex := 339, attributes := #[] }, { accessFlags := 26, nameIndex := 364, descriptorIndex := 339, attributes := #[] }, { accessFlags := 26, nameIndex := 365, descriptorIndex := 339, attributes := #[] }, { accessFlags := 26, nameIndex := 172, descriptorIndex := 173, attributes := #[] }, { accessFlags := 26, nameIndex := 176, descriptorIndex := 173, attributes := #[] }, { accessFlags := 8, nameIndex := 344, descriptorIndex := 339, attributes := #[] }, { accessFlags := 8, nameIndex := 338, descriptorIndex := 339, attributes := #[] }, { accessFlags := 4120, nameIndex := 245, descriptorIndex := 246, attributes := #[] }])
  fields := #[{ name := "E", type := .double, accessFlags := 25, slot := 0, constantValue := 0 }, { name := "PI", type := .double, accessFlags := 25, slot := 1, constantValue := 0 }, { name := "TAU", type := .double, accessFlags := 25, slot := 2, constantValue := 0 }, { name := "DEGREES_TO_RADIANS", type := .double, accessFlags := 26, slot := 3, constantValue := 0 }, { name := "RADIANS_TO_DEGREES", type := .double, accessFlags := 26, slot := 4, constantValue := 0 }, { name := "negativeZeroFloatBits", type := .long, accessFlags := 26, slot := 5, constantValue := 0 }, { name := "negativeZeroDoubleBits", type := .long, accessFlags := 26, slot := 6, constantValue := 0 }, { name := "twoToTheDoubleScaleUp", type := .double, accessFlags := 8, slot := 7, constantValue := 0 }, { name := "twoToTheDoubleScaleDown", type := .double, accessFlags := 8, slot := 8, constantValue := 0 }, { name := "$assertionsDisabled", type := .boolean, accessFlags := 4120, slot := 9, constantValue := 0 }]
  methods := #[k4m0, k4m1]
  instanceTypes := #[]
  staticTypes := #[.double, .double, .double, .double, .double, .long, .long, .double, .double, .boolean]
  resolved := Array.replicate 460 none
  statics := none }

def pool5 : Array CpInfo := pool [(2, .class_ 4), (1, u "java/lang/Object"), (0, u "<init>"), (0, u "()V"), (1, .class_ 10), (1, u "java/lang/System"), (0, u "allowSecurityManager"), (0, u "I"), (16, u "cons"), (0, u "Ljava/io/Console;"), (77, .class_ 110), (1, u "java/lang/System$CallersHolder"), (43, u "initialErrStream"), (0, u "Ljava/io/PrintStream;"), (19, u "security"), (0, u "Ljava/lang/SecurityManager;"), (31, .class_ 209), (0, u "java/lang/System$1"), (7, u "props"), (0, u "Ljava/util/Properties;"), (2, u "lineSeparator"), (0, u "Ljava/lang/String;"), (96, .class_ 321), (1, u "java/lang/System$LoggerFinder"), (5, .class_ 328), (0, u "java/lang/System$Logger"), (67, u "err"), (2, u "out"), (91, u "notSupportedJnuEncoding"), (15, u "in"), (17, u "initialIn"), (0, u "Ljava/io/InputStream;"), (35, u "bootLayer"), (0, u "Ljava/lang/ModuleLayer;"), (99, .class_ 664), (0, u "java/lang/System$2"), (9, u "NEVER"), (2, u "MAYBE"), (49, u "arraycopy"), (0, u "(Ljava/lang/Object;ILjava/lang/Object;II)V"), (72, .class_ 802), (0, u "java/lang/System$Logger$Level")] 31

def k5m0 : Method := { name := "<init>", desc := "()V", sig := { parameters := [], returnType := none }, accessFlags := 2, code := none }
def k5m1 : Method := { name := "arraycopy", desc := "(Ljava/lang/Object;ILjava/lang/Object;II)V", sig := { parameters := [(.object "java/lang/Object"), .int, (.object "java/lang/Object"), .int, .int], returnType := none }, accessFlags := 265, code := none }
/-- java/lang/System -/
def k5 : Class := { plain "java/lang/System" (some 0) with
  accessFlags := 49
  interfaces := #[]
  cf := some (fileOf pool5 8 #[.nestMembers #[319, 327, 801, 108, 663, 208]] #[{ accessFlags := 2, nameIndex := 5, descriptorIndex := 6, attributes := #[] }, { accessFlags := 265, nameIndex := 727, descriptorIndex := 728, attributes := #[] }] 49 2 #[] #[{ accessFlags := 25, nameIndex := 507, descriptorIndex := 526, attributes := #[] }, { accessFlags := 25, nameIndex := 399, descriptorIndex := 155, attributes := #[] }, { accessFlags := 25, nameIndex := 396, descriptorIndex := 155, attributes := #[] }, { accessFlags := 10, nameIndex := 525, descriptorIndex := 526, attributes := #[] }, { accessFlags := 26, nameIndex := 674, descriptorIndex := 12, attributes := #[] }, { accessFlags := 26, nameIndex := 677, descriptorIndex := 12, attributes := #[] }, { accessFlags := 10, nameIndex := 11, descriptorIndex := 12, attributes := #[] }, { accessFlags := 74, nameIndex := 175, descriptorIndex := 176, attributes := #[] }, { accessFlags := 10, nameIndex := 491, descriptorIndex := 222, attributes := #[] }, { accessFlags := 74, nameIndex := 29, descriptorIndex := 30, attributes := #[] }, { accessFlags := 74, nameIndex := 154, descriptorIndex := 155, attributes := #[] }, { accessFlags := 10, nameIndex := 217, descriptorIndex := 218, attributes := #[] }, { accessFlags := 10, nameIndex := 221, descriptorIndex := 222, attributes := #[] }, { accessFlags := 8, nameIndex := 562, descriptorIndex := 563, attributes := #[] }])
  fields := #[{ name := "in", type := (.object "java/io/InputStream"), accessFlags := 25, slot := 0, constantValue := 0 }, { name := "out", type := (.object "java/io/PrintStream"), accessFlags := 25, slot := 1, constantValue := 0 }, { name := "err", type := (.object "java/io/PrintStream"), accessFlags := 25, slot := 2, constantValue := 0 }, { name := "initialIn", type := (.object "java/io/InputStream"), accessFlags := 10, slot := 3, constantValue := 0 }, { name := "NEVER", type := .int, accessFlags := 26, slot := 4, constantValue := 0 }, { name := "MAYBE", type := .int, accessFlags := 26, slot := 5, constantValue := 0 }, { name := "allowSecurityManager", type := .int, accessFlags := 10, slot := 6, constantValue := 0 }, { name := "security", type := (.object "java/lang/SecurityManager"), accessFlags := 74, slot := 7, constantValue := 0 }, { name := "notSupportedJnuEncoding", type := (.object "java/lang/String"), accessFlags := 10, slot := 8, constantValue := 0 }, { name := "cons", type := (.object "java/io/Console"), accessFlags := 74, slot := 9, constantValue := 0 }, { name := "initialErrStream", type := (.object "java/io/PrintStream"), accessFlags := 74, slot := 10, constantValue := 0 }, { name := "props", type := (.object "java/util/Properties"), accessFlags := 10, slot := 11, constantValue := 0 }, { name := "lineSeparator", type := (.object "java/lang/String"), accessFlags := 10, slot := 12, constantValue := 0 }, { name := "bootLayer", type := (.object "java/lang/ModuleLayer"), accessFlags := 8, slot := 13, constantValue := 0 }]
  methods := #[k5m0, k5m1]
  instanceTypes := #[]
  staticTypes := #[(.object "java/io/InputStream"), (.object "java/io/PrintStream"), (.object "java/io/PrintStream"), (.object "java/io/InputStream"), .int, .int, .int, (.object "java/lang/SecurityManager"), (.object "java/lang/String"), (.object "java/io/Console"), (.object "java/io/PrintStream"), (.object "java/util/Properties"), (.object "java/lang/String"), (.object "java/lang/ModuleLayer")]
  resolved := Array.replicate 834 none
  statics := none }

def pool6 : Array CpInfo := pool [(1, .class_ 2), (0, u "java/lang/Cloneable"), (0, .class_ 4), (0, u "java/lang/Object")] 2

/-- java/lang/Cloneable -/
def k6 : Class := { plain "java/lang/Cloneable" (some 0) with
  accessFlags := 1537
  interfaces := #[]
  cf := some (fileOf pool6 1 #[] #[] 1537 3 #[] #[])
  fields := #[]
  methods := #[]
  instanceTypes := #[]
  staticTypes := #[]
  resolved := Array.replicate 7 none
  statics := none }

def pool7 : Array CpInfo := pool [(1, u "java/io/Serializable"), (0, .class_ 1), (0, u "java/lang/Object"), (0, .class_ 3)] 3

/-- java/io/Serializable -/
def k7 : Class := { plain "java/io/Serializable" (some 0) with
  accessFlags := 1537
  interfaces := #[]
  cf := some (fileOf pool7 2 #[] #[] 1537 4 #[] #[])
  fields := #[]
  methods := #[]
  instanceTypes := #[]
  staticTypes := #[]
  resolved := Array.replicate 8 none
  statics := none }

/-- the primitive byte -/
def k8 : Class := { plain "byte" none with kind := .primitive 'B', accessFlags := 0x411 }
/-- [B -/
def k9 : Class := { plain "[B" (some 0) with kind := .array 8 .byte, interfaces := #[6, 7], accessFlags := 1041 }

/-- the primitive int -/
def k10 : Class := { plain "int" none with kind := .primitive 'I', accessFlags := 0x411 }
/-- [I -/
def k11 : Class := { plain "[I" (some 0) with kind := .array 10 .int, interfaces := #[6, 7], accessFlags := 1041 }
/-- [[I -/
def k12 : Class := { plain "[[I" (some 0) with kind := .array 11 (.array .int), interfaces := #[6, 7], accessFlags := 1041 }

def heap : Heap := #[]
def classes : Array Class := #[k0, k1, k2, k3, k4, k5, k6, k7, k8, k9, k10, k11, k12]
def interned : List (Array UInt16 × Addr) := []
def slotsUsed : Nat := 0
def theMethod : MethodId := ⟨1, 1⟩
def args0 : Array Value := #[.int 5, .int 5, .int 5, .int 5, .int 5, .int 5]
def aboutOver (below : List Frame) : State where
  vm := { classes := classes, interned := interned.toArray }
  heap := heap
  slotsUsed := slotsUsed
  threads := #[{ frames := .invoking theMethod args0 :: below }]
def below0 : List Frame := [.native { method := ⟨0, 0⟩, args := #[] }]
def about1 : State := aboutOver below0
def p0 : Program := .bare "" "" ""
def e0 : Env := launch0.env 0 0 0
theorem w_frames : about1.frames = Frame.invoking theMethod args0 :: below0 := rfl
set_option maxRecDepth 65536 in
theorem w_args : argsFit about1.vm theMethod args0 = true := by decide +kernel
set_option maxRecDepth 65536 in
theorem w_heap : heapFits about1 = true := by decide +kernel
set_option maxRecDepth 65536 in
theorem w_runnable : about1.curStatus? = some .runnable := by decide +kernel
set_option maxRecDepth 65536 in
theorem w_alone : about1.alone = true := by decide +kernel
set_option maxRecDepth 65536 in
theorem w_named : about1.methodNamed? x = some theMethod := by decide +kernel
set_option maxRecDepth 65536 in
theorem w_hears : about1.hears theMethod below0 = true := by decide +kernel
set_option maxRecDepth 65536 in
theorem w_ripe : about1.ripe theMethod args0 below0 = true := by decide +kernel
theorem w_running : about1.status = .running := rfl
set_option maxRecDepth 65536 in
theorem w_room : about1.hasRoom e0.platform room_1 = true :=
  launch0.hasRoom_least _ room_1 (by decide +kernel) (by decide +kernel) (by decide +kernel) (by decide +kernel) (by decide +kernel) (by decide +kernel)
theorem allAtoms_all (ts : List Jvm.Cond) (a : Array Jvm.Value) (st : Jvm.State) : (allAtoms ts).before a st = ts.all (fun c => c.before a st) := by
  induction ts with
  | nil => rfl
  | cons c t ih =>
    show (Jvm.Cond.and c (allAtoms t)).before a st = _
    rw [Jvm.Cond.before_and, ih, List.all_cons]
def words1 : List Jvm.Cond := Jvm.Cond.code x code maxLocals ret :: tables_1
/-- a 'code' word, met by the world's own term for the bytes: nothing is compared byte by byte -/
theorem code_word {y : MethodName} {bytes : ByteArray} {mx : Nat} {rt : Option FieldType} {a : Array Value} {s : State} {m : MethodId} {meth : Method} {c : Code} (h1 : s.methodNamed? y = some m) (h2 : s.vm.method? m = some meth) (h3 : meth.code = some c) (h4 : c.code = bytes)
    (h5 : (c.maxLocals == mx && c.exceptionTable.isEmpty && decide (c.maxStack ≤ mostOperands) && decide (meth.sig.returnType = rt) && !meth.locks && decide (parseMethodDescriptor y.desc = some meth.sig)) = true) : (Jvm.Cond.code y bytes mx rt).before a s = true := by
  simp only [Bool.and_eq_true, beq_iff_eq, Bool.not_eq_true', decide_eq_true_eq] at h5
  obtain ⟨⟨⟨⟨⟨g1, g2⟩, g3⟩, g4⟩, g5⟩, g6⟩ := h5
  simp [Cond.before, Cond.holds, Cond.value, h1, h2, h3, h4, g1, g2, g3, g4, g5, g6]
def isCode : Jvm.Cond → Bool
  | .code _ _ _ _ => true
  | _ => false
theorem all_split {L : List Jvm.Cond} {P : Jvm.Cond → Bool} (h1 : L.all (fun c => isCode c || P c) = true) (h2 : ∀ c ∈ L.filter isCode, P c = true) : L.all P = true := by
  refine List.all_eq_true.mpr fun c hc => ?_
  have h := List.all_eq_true.mp h1 c hc
  rcases Bool.eq_false_or_eq_true (isCode c) with hi | hi
  · exact h2 c (List.mem_filter.mpr ⟨hc, hi⟩)
  · simpa [hi] using h
set_option maxRecDepth 65536 in
theorem w_c0 : (Jvm.Cond.code x code maxLocals ret).before args0 about1 = true := code_word (m := ⟨1, 1⟩) (meth := k1m1) (c := k1c1) (by decide +kernel) rfl rfl rfl (by decide +kernel)
set_option maxRecDepth 65536 in
theorem w_c1 : (Jvm.Cond.code ({ cls := "com/example/clio/clio/repository/Columns", name := "<init>", desc := "(I)V" } : Jvm.MethodName) prog_22_method_1_code (2 : Nat) (Option.none : Option Jvm.ClassFile.FieldType)).before args0 about1 = true := code_word (m := ⟨2, 0⟩) (meth := k2m0) (c := k2c0) (by decide +kernel) rfl rfl rfl (by decide +kernel)
set_option maxRecDepth 65536 in
theorem w_c2 : (Jvm.Cond.code ({ cls := "java/lang/Object", name := "<init>", desc := "()V" } : Jvm.MethodName) object_method_1_code (1 : Nat) (Option.none : Option Jvm.ClassFile.FieldType)).before args0 about1 = true := code_word (m := ⟨0, 0⟩) (meth := k0m0) (c := k0c0) (by decide +kernel) rfl rfl rfl (by decide +kernel)
set_option maxRecDepth 65536 in
theorem w_c3 : (Jvm.Cond.code ({ cls := "com/example/clio/clio/repository/Columns", name := "column", desc := "(I)[I" } : Jvm.MethodName) prog_22_method_4_code (2 : Nat) (Option.some (Jvm.ClassFile.FieldType.array Jvm.ClassFile.FieldType.int))).before args0 about1 = true := code_word (m := ⟨2, 3⟩) (meth := k2m3) (c := k2c3) (by decide +kernel) rfl rfl rfl (by decide +kernel)
set_option maxRecDepth 65536 in
theorem w_c4 : (Jvm.Cond.code ({ cls := "java/util/Arrays", name := "copyOf", desc := "([II)[I" } : Jvm.MethodName) jdk_65_method_123_code (3 : Nat) (Option.some (Jvm.ClassFile.FieldType.array Jvm.ClassFile.FieldType.int))).before args0 about1 = true := code_word (m := ⟨3, 1⟩) (meth := k3m1) (c := k3c1) (by decide +kernel) rfl rfl rfl (by decide +kernel)
set_option maxRecDepth 65536 in
theorem w_c5 : (Jvm.Cond.code ({ cls := "java/lang/Math", name := "min", desc := "(II)I" } : Jvm.MethodName) jdk_29_method_69_code (2 : Nat) (Option.some Jvm.ClassFile.FieldType.int)).before args0 about1 = true := code_word (m := ⟨4, 1⟩) (meth := k4m1) (c := k4c1) (by decide +kernel) rfl rfl rfl (by decide +kernel)
set_option maxRecDepth 65536 in
theorem w_c6 : (Jvm.Cond.code ({ cls := "com/example/clio/clio/repository/Columns", name := "size", desc := "()I" } : Jvm.MethodName) prog_22_method_3_code (1 : Nat) (Option.some Jvm.ClassFile.FieldType.int)).before args0 about1 = true := code_word (m := ⟨2, 2⟩) (meth := k2m2) (c := k2c2) (by decide +kernel) rfl rfl rfl (by decide +kernel)
set_option maxRecDepth 65536 in
theorem w_c7 : (Jvm.Cond.code ({ cls := "com/example/clio/clio/repository/Columns", name := "add", desc := "([I)V" } : Jvm.MethodName) prog_22_method_2_code (3 : Nat) (Option.none : Option Jvm.ClassFile.FieldType)).before args0 about1 = true := code_word (m := ⟨2, 1⟩) (meth := k2m1) (c := k2c1) (by decide +kernel) rfl rfl rfl (by decide +kernel)
def codes1 : List Jvm.Cond := [Jvm.Cond.code x code maxLocals ret, Jvm.Cond.code ({ cls := "com/example/clio/clio/repository/Columns", name := "<init>", desc := "(I)V" } : Jvm.MethodName) prog_22_method_1_code (2 : Nat) (Option.none : Option Jvm.ClassFile.FieldType), Jvm.Cond.code ({ cls := "java/lang/Object", name := "<init>", desc := "()V" } : Jvm.MethodName) object_method_1_code (1 : Nat) (Option.none : Option Jvm.ClassFile.FieldType), Jvm.Cond.code ({ cls := "com/example/clio/clio/repository/Columns", name := "column", desc := "(I)[I" } : Jvm.MethodName) prog_22_method_4_code (2 : Nat) (Option.some (Jvm.ClassFile.FieldType.array Jvm.ClassFile.FieldType.int)), Jvm.Cond.code ({ cls := "java/util/Arrays", name := "copyOf", desc := "([II)[I" } : Jvm.MethodName) jdk_65_method_123_code (3 : Nat) (Option.some (Jvm.ClassFile.FieldType.array Jvm.ClassFile.FieldType.int)), Jvm.Cond.code ({ cls := "java/lang/Math", name := "min", desc := "(II)I" } : Jvm.MethodName) jdk_29_method_69_code (2 : Nat) (Option.some Jvm.ClassFile.FieldType.int), Jvm.Cond.code ({ cls := "com/example/clio/clio/repository/Columns", name := "size", desc := "()I" } : Jvm.MethodName) prog_22_method_3_code (1 : Nat) (Option.some Jvm.ClassFile.FieldType.int), Jvm.Cond.code ({ cls := "com/example/clio/clio/repository/Columns", name := "add", desc := "([I)V" } : Jvm.MethodName) prog_22_method_2_code (3 : Nat) (Option.none : Option Jvm.ClassFile.FieldType)]
set_option maxRecDepth 65536 in
theorem codes_eq : words1.filter isCode = codes1 := rfl
theorem w_codes : ∀ c ∈ words1.filter isCode, c.before args0 about1 = true := by
  rw [codes_eq]
  intro c hc
  simp only [codes1, List.mem_cons, List.not_mem_nil, or_false] at hc
  rcases hc with rfl | rfl | rfl | rfl | rfl | rfl | rfl | rfl
  · exact w_c0
  · exact w_c1
  · exact w_c2
  · exact w_c3
  · exact w_c4
  · exact w_c5
  · exact w_c6
  · exact w_c7
set_option maxRecDepth 65536 in
theorem w_t1 : (words1.take 24).all (fun c => isCode c || c.before args0 about1) = true := by decide +kernel
set_option maxRecDepth 65536 in
theorem w_t2 : ((words1.drop 24).take 24).all (fun c => isCode c || c.before args0 about1) = true := by decide +kernel
set_option maxRecDepth 65536 in
theorem w_t3 : ((words1.drop 24).drop 24).all (fun c => isCode c || c.before args0 about1) = true := by decide +kernel
theorem w_tables : (allAtoms (Jvm.Cond.code x code maxLocals ret :: tables_1)).before args0 about1 = true := by
  rw [allAtoms_all]
  show words1.all (fun c => c.before args0 about1) = true
  refine all_split ?_ w_codes
  rw [← List.take_append_drop 24 words1, List.all_append, w_t1, ← List.take_append_drop 24 (words1.drop 24), List.all_append, w_t2, w_t3]
  rfl
set_option maxRecDepth 65536 in
theorem w_case : (Jvm.Cond.and given_1 narrow_1).before args0 about1 = true := by decide +kernel
theorem w_applies : (headSpec (Jvm.Cond.code x code maxLocals ret :: tables_1) room_1).applies x e0.platform about1 = true :=
  (Spec.applies_iff w_frames).mpr ⟨w_running, w_runnable, w_alone, w_named, w_hears, w_ripe, w_room, w_tables⟩
theorem atStart : AtStart classFile x code maxLocals ret World_1 tables_1 room_1 Calls_1 rest_1 Pre_1 launch0 p0 e0 about1 theMethod args0 below0 :=
  ⟨lists_1, trivial, launch0.admits_env _ _ _, launch0.least_env, fairChoices_fair.cas, fairChoices_fair.clock, w_frames, w_args, w_heap, w_applies, trivial, trivial, w_case⟩
end start1
theorem witness_1 : WitnessClaimed_1 := ⟨start1.p0, start1.e0, start1.about1, start1.theMethod, start1.args0, start1.below0, start1.atStart⟩
end Jvm.Pilot.@@N@@
