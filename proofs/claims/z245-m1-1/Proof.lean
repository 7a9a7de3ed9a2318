import JvmDerived
import JvmDerived.Pilot.@@N@@Statement
import JvmDerived.Pilot.@@N@@Code
set_option linter.unusedVariables false
set_option linter.unusedSimpArgs false
namespace Jvm.Pilot.@@N@@
open Jvm Jvm.ClassFile Sem Op Lib Jvm.Free Jvm.Stand Jvm.LawKit Jvm.RoadKit Bundle Jvm.Pilot.@@N@@.Jvm.D
abbrev sF (T : State) (m : MethodId) (pc : Nat) (Ls : Array Slot) (st : List Value) : State := T.setTop (mkF m pc Ls st)
/-- from F the run goes on to the method's end, and W holds there -/
def Goes (p : Program) (e : Env) (below : List Frame) (W : Outcome → State → Prop) (F : State) : Prop := ∃ s₂ o, Steps p.tables e below F s₂ ∧ s₂.status = .running ∧ Ended s₂ below o ∧ W o s₂
theorem Goes.step {p : Program} {e : Env} {below : List Frame} {W : Outcome → State → Prop} {F F' : State} (g : Goes p e below W F') (h : ∀ t, Steps p.tables e below F' t → Steps p.tables e below F t) : Goes p e below W F := by
  obtain ⟨s₂, o, h1, h2⟩ := g
  exact ⟨s₂, o, h _ h1, h2⟩
section Fin
variable {p : Program} {l : Launch} {e : Env} {R : Room} {s : State} {m : MethodId} {args : Array Value} {below : List Frame} {meth : Method} {c : Code} {T : State} {locs : List Loc} {cells slots : Nat}
theorem own_out (X : Stand p l e R s m args below meth c T locs cells slots) (hx : p.tables.exec = Jvm.exec) (hlk : meth.locks = false) {pc : Nat} {Ls : Array Slot} {w : Value} {t : FieldType} {i : Instr} {rest : List Value} {P : Option Value → Heap → List Loc → Prop} {C N : Nat} (hret : meth.sig.returnType = some t) (hn : narrow t w = w)
    (hi : (i = .ireturn ∧ (t = .int ∨ t = .boolean ∨ t = .byte ∨ t = .char ∨ t = .short) ∧ ∃ z, w = .int z) ∨ (i = .lreturn ∧ t = .long ∧ ∃ z, w = .long z) ∨ (i = .dreturn ∧ t = .double ∧ ∃ z, w = .double z) ∨ (i = .freturn ∧ t = .float ∧ ∃ z, w = .float z) ∨ (i = .areturn ∧ t.isReference = true ∧ w.isRef = true))
    (hd : decode c.code pc = .ok (i, 1)) (hP : P (some w) T.heap locs) (hC : cells ≤ C) (hN : slots ≤ N) :
    Goes p e below (fun o U' => ∃ v L, o = .returned v ∧ P v U'.heap L ∧ FrameEnd s o U' L C N) (T.setTop (mkF m pc Ls (w :: rest))) := by
  obtain ⟨fs, hr, hrun, hended, hW, hsame⟩ := X.leave (v := some w) (fun h => by rw [hret] at h; cases h)
  exact ⟨_, _, retOut X hx hret hn hi hd hr, hrun, hended, _, _, rfl, hP, ⟨_, rfl⟩, hW, hsame.mono hC hN⟩
theorem own_outV (X : Stand p l e R s m args below meth c T locs cells slots) (hx : p.tables.exec = Jvm.exec) (hlk : meth.locks = false) {pc : Nat} {Ls : Array Slot} {P : Option Value → Heap → List Loc → Prop} {C N : Nat} (hret : meth.sig.returnType = none)
    (hd : decode c.code pc = .ok (.return_, 1)) (hP : P none T.heap locs) (hC : cells ≤ C) (hN : slots ≤ N) :
    Goes p e below (fun o U' => ∃ v L, o = .returned v ∧ P v U'.heap L ∧ FrameEnd s o U' L C N) (T.setTop (mkF m pc Ls [])) := by
  obtain ⟨fs, hr, hrun, hended, hW, hsame⟩ := X.leave (v := none) (fun _ => rfl)
  exact ⟨_, _, X.returnOut hx hret hd hr, hrun, hended, _, _, rfl, hP, ⟨_, rfl⟩, hW, hsame.mono hC hN⟩
theorem own_outW {vm₁ : Vm} {n : Nat} (X : Stand p l e R (s.setVm vm₁) m args below meth c T locs cells slots) (hS : s.Since vm₁ n) (hn : n ≤ T.heap.size) (hx : p.tables.exec = Jvm.exec) (hlk : meth.locks = false) {pc : Nat} {Ls : Array Slot} {w : Value} {t : FieldType} {i : Instr} {rest : List Value} {P : Option Value → Heap → List Loc → Prop} {C N : Nat} (hret : meth.sig.returnType = some t) (hnw : narrow t w = w)
    (hi : (i = .ireturn ∧ (t = .int ∨ t = .boolean ∨ t = .byte ∨ t = .char ∨ t = .short) ∧ ∃ z, w = .int z) ∨ (i = .lreturn ∧ t = .long ∧ ∃ z, w = .long z) ∨ (i = .dreturn ∧ t = .double ∧ ∃ z, w = .double z) ∨ (i = .freturn ∧ t = .float ∧ ∃ z, w = .float z) ∨ (i = .areturn ∧ t.isReference = true ∧ w.isRef = true))
    (hd : decode c.code pc = .ok (i, 1)) (hP : P (some w) T.heap locs) (hC : cells ≤ C) (hN : slots ≤ N) :
    Goes p e below (fun o U' => ∃ v L, o = .returned v ∧ P v U'.heap L ∧ ReturnedEndW s o U' L C N) (T.setTop (mkF m pc Ls (w :: rest))) := by
  obtain ⟨fs, hr, hrun, hended, h1, h2, h3, h4⟩ := X.leaveW hS hn (v := some w) (fun h => by rw [hret] at h; cases h)
  exact ⟨_, _, retOut X hx hret hnw hi hd hr, hrun, hended, _, _, rfl, hP, h1, h2, h3, h4.mono hC hN⟩
theorem own_outVW {vm₁ : Vm} {n : Nat} (X : Stand p l e R (s.setVm vm₁) m args below meth c T locs cells slots) (hS : s.Since vm₁ n) (hn : n ≤ T.heap.size) (hx : p.tables.exec = Jvm.exec) (hlk : meth.locks = false) {pc : Nat} {Ls : Array Slot} {P : Option Value → Heap → List Loc → Prop} {C N : Nat} (hret : meth.sig.returnType = none)
    (hd : decode c.code pc = .ok (.return_, 1)) (hP : P none T.heap locs) (hC : cells ≤ C) (hN : slots ≤ N) :
    Goes p e below (fun o U' => ∃ v L, o = .returned v ∧ P v U'.heap L ∧ ReturnedEndW s o U' L C N) (T.setTop (mkF m pc Ls [])) := by
  obtain ⟨fs, hr, hrun, hended, h1, h2, h3, h4⟩ := X.leaveW hS hn (v := none) (fun _ => rfl)
  exact ⟨_, _, X.returnOut hx hret hd hr, hrun, hended, _, _, rfl, hP, h1, h2, h3, h4.mono hC hN⟩
theorem own_lrem {g : JFrame} {target : State} (X : Stand p l e R s m args below meth c T locs cells slots) (hx : p.tables.exec = Jvm.exec) (hg : g.method = m) {x y : Int64} {rest : List Value} (hd : decode c.code g.pc = .ok (.lrem, 1)) (hs : g.stack = .long y :: .long x :: rest) (hy : y ≠ 0)
    (hr : Steps p.tables e below (T.setTop { g with pc := g.pc + 1, stack := .long (x % y) :: rest }) target) : Steps p.tables e below (T.setTop g) target := by
  have q : x - x / y * y = x % y := lrem_mod x y
  exact XS.lrem X.here hx hg hd hs hy (by rw [q]; exact hr)
end Fin
theorem own_eqI {args : Array Value} {first s : State} {o : Option Outcome} {idx : List Nat} {t : Term} {n : Int32} (h : (Jvm.Cond.eq t (.int n)).value args first o s idx = some true) : t.eval args first o idx s = some (.int n) := by
  cases ht : t.eval args first o idx s with
  | none => simp [Cond.value, ht] at h
  | some v => cases v <;> simp [Cond.value, Term.eval, ht] at h ⊢ <;> exact h
theorem own_ne {s : State} {a b : Addr} {C n d : String} {x y : Int32} (h1 : s.fieldOf? a C n d = some (.int x)) (h2 : s.fieldOf? b C n d = some (.int y)) (hne : x ≠ y) : a ≠ b := fun e => by
  subst e; rw [h1] at h2; exact hne (Value.int.inj (Option.some.inj h2))
theorem own_ext {h h1 h2 : Heap} {b : Addr} (E : Ext h h1) (K : Keep h1 h2 [b]) (g : h.size ≤ b) : Ext h h2 :=
  ⟨Nat.le_trans E.1 K.1, fun a c q => K.2.1 a c (E.2 a c q) (ninS (Nat.ne_of_lt (Nat.lt_of_lt_of_le (Array.getElem?_eq_some_iff.mp q).1 g)) nin0)⟩
theorem own_NSroot {Z : State} {a0 : Array Value} {O K : String} {n : Nat} (w : (Jvm.Cond.noSuperclass O).before a0 Z = true) (wk : (Jvm.Cond.instantiable K n).before a0 Z = true) (hn : O ≠ K) : NS Z O K := by
  obtain ⟨c, k, h1, h2, h3, -, -⟩ := Cond.noSuperclass_spec w
  obtain ⟨t, k', g1, -⟩ := Cond.instantiable_spec wk
  have ne := ids_ne h1 g1 hn
  refine ⟨c, t, h1, g1, fun fuel => ?_⟩
  cases fuel with
  | zero => rfl
  | succ f => simp [Vm.isSubclassAux, ne, h2, h3]
theorem own_no {Z : State} {a0 : Array Value} {C S K : String} {n : Nat} (w : (Jvm.Cond.superclass C S).before a0 Z = true) (wk : (Jvm.Cond.instantiable K n).before a0 Z = true) (ns : NS Z C K) (hn : C ≠ K) : ∃ c t, Z.vm.findClass C = some c ∧ Z.vm.findClass K = some t ∧ Z.vm.assignable c t = false := by
  obtain ⟨c, t, h0, g0, n3⟩ := ns
  obtain ⟨p, k, kp, h1, h2, h3, h4, h5, -, h7⟩ := Cond.superclass_spec h0 w
  obtain ⟨t', k', g1, g2, g5, g6, -⟩ := Cond.instantiable_spec wk
  cases g0.symm.trans g1
  have g7 : k'.isInterface = false := by simp only [Bool.or_eq_false_iff] at g6; exact g6.1
  have ne := ids_ne h0 g0 hn
  refine ⟨c, t, h0, g0, ?_⟩
  show Z.vm.assignableAux (255 + 1) c t = false
  simp [Vm.assignableAux, ne, h2, g2, h5, g5, g7, Vm.isSubclass, n3]
theorem own_len {s : State} {args : Array Value} {t : Term} {a : Addr} {cl : Cell} (ht : t.eval args s none [] s = some (.ref a)) (ha : s.arrayAt? a = some cl) (hl : (Term.length t).eval args s none [] s = some (.int (256 : Int32))) : cl.slots.size = 256 := by
  by_cases q : cl.slots.size < 2 ^ 31
  · have h := len_f ht ha q
    rw [h] at hl
    have h2 := congrArg Int32.toInt (Value.int.inj (Option.some.inj hl))
    rw [len_toInt q] at h2
    have e : (256 : Int32).toInt = 256 := by decide
    omega
  · simp [Term.eval, ht, ha, q] at hl
theorem own_elem {s : State} {args : Array Value} {t : Term} {a : Addr} {cl : Cell} {C : String} {i : Nat} (ht : t.eval args s none [i] s = some (.ref a)) (ha : s.arrayAt? a = some cl) (hi : i < cl.slots.size) (hs : cl.slots.size < 2 ^ 31) (h : (Jvm.Cond.exactly (.elem t (.index 0)) C).value args s none s [i] = some true) : ∃ x, cl.slots[i]? = some (.ref x) ∧ Exa s s.heap x C := by
  have hx' : (Jvm.Cond.exactly (.elem t (.index 0)) C).holds args s none s [i] = true := by simp [Cond.holds, h]
  obtain ⟨x, c, cell, k, e1, e2, e3, e4, e5, rfl, e7⟩ := Cond.exactly_spec hx'
  have q := idx_in hi hs
  have hj : (Term.index 0).eval args s none [i] s = some (.int i.toInt32) := rfl
  have e := elem_f ht hj ha (fun z => q (Or.inl z))
  have hn : i.toInt32.toNatClampNeg = i := by
    have z : i.toInt32.toInt = i := len_toInt (by omega)
    rw [Int32.toNatClampNeg, z]; simp
  rw [e, hn] at e1
  exact ⟨x, e1, cell, k, e3, e2, e4, e5, e7⟩
theorem pn_java_lang_Number : plainName "java/lang/Number" = true := by first | (simp [plainName, overriddenIn]; done) | decide +kernel
theorem ef_rmNum (m : MethodId) (x0 : Addr) : entryFrame m #[(.ref x0)] 1 = mkF m 0 #[rv x0] [] := by first | (simp [entryFrame, mkF, argsToLocals, Value.category]; done) | rfl
def QNum (h0 : Heap) (n0 : Nat) (v : Option Value) (h : Heap) (L : List Loc) : Prop := v = none ∧ Fr n0 L ∧ h = h0
theorem d7_0 : decode jdk_18_method_1_code 0 = .ok (.aload_n 0, 1) := by decide +kernel
theorem d7_1 : decode jdk_18_method_1_code 1 = .ok (.invokespecial 1, 3) := by decide +kernel
theorem d7_4 : decode jdk_18_method_1_code 4 = .ok (.return_, 1) := by decide +kernel
set_option maxRecDepth 65536 in
set_option maxHeartbeats 40000000 in
theorem rmNum (l : Launch) (Z : State) (a0 : Array Value) (hw : ∀ d ∈ tables_1, d.before a0 Z = true) (ws : List Jvm.Cond) (a1 : Addr) (h0 : Heap) (n0 : Nat) (Z0 : n0 ≤ h0.size) :
    MetFree l (⟨"java/lang/Number", "<init>", "()V"⟩ : MethodName) (head1 (Jvm.Cond.code (⟨"java/lang/Number", "<init>", "()V"⟩ : MethodName) jdk_18_method_1_code 1 none :: ws) ({ frames := 1, cells := 0, slots := 0, locals := 12 } : Room)) (fun a U => a = #[(.ref a1)] ∧ Z.Warmed39 U.vm ∧ U.heap = h0) (fun _ _ _ _ _ => True) (fun _ U o U' => ∃ v L, o = .returned v ∧ QNum h0 n0 v U'.heap L ∧ FrameEnd U o U' L ({ frames := 1, cells := 0, slots := 0, locals := 12 } : Room).cells ({ frames := 1, cells := 0, slots := 0, locals := 12 } : Room).slots) := by
  refine MetFree.of_bodySF (plainFor_of_name pn_java_lang_Number) hisR ?_
  intro p e s m args below meth c s₁ Bd hml0 hP hK
  obtain ⟨rfl, hZ, hh⟩ := hP
  have hx := Bd.exec
  have hby := Bd.bytes
  have hlk : meth.locks = false := BodyLoose.notSynchronized Bd
  have hml : c.maxLocals = 1 := hml0
  have hown : s.vm.findClass "java/lang/Number" = some m.cls := findClass_of_methodNamed Bd.named
  have hnm := (name_of_methodNamed Bd.named Bd.method).1
  have X0 : Stand p l e ({ frames := 1, cells := 0, slots := 0, locals := 12 } : Room) s m #[(.ref a1)] below meth c s₁ [] 0 0 := Stand.of_body Bd
  have e0 : s₁.heap = h0 := by rw [← hh, Bd.state]; rfl
  have N0 := Fr.nil n0
  have hret := Bd.returns
  show Goes p e below (fun o U' => ∃ v L, o = .returned v ∧ QNum h0 n0 v U'.heap L ∧ FrameEnd s o U' L ({ frames := 1, cells := 0, slots := 0, locals := 12 } : Room).cells ({ frames := 1, cells := 0, slots := 0, locals := 12 } : Room).slots) (s₁.setTop (entryFrame m #[(.ref a1)] 1))
  refine Goes.step ?_ (fun _ k => castTop (ef_rmNum m a1) k)
  show Goes p e below _ (sF s₁ m 0 #[rv a1] [])
  refine Goes.step ?_ (fun _ k => XS.aloadN X0.here hx rfl (hb hby d7_0) rfl rfl k)
  show Goes p e below _ (sF s₁ m 1 #[rv a1] [(.ref a1)])
  obtain ⟨T1, X1, e1, st1⟩ := initO X0 hx hZ hown (hw _ (List.mem_of_getElem? (i := 48) rfl)) (hw _ (List.mem_of_getElem? (i := 9) rfl)) (hw _ (List.mem_of_getElem? (i := 10) rfl)) e0 (g := (mkF m 1 #[rv a1] [(.ref a1)])) rfl (by rw [hml]; rfl) rfl (hb hby d7_1) (by decide) (W := 0) (by show 2 * 0 + _ ≤ _; exact Nat.le_of_eq rfl) (by decide)
  refine Goes.step ?_ st1
  show Goes p e below _ (sF T1 m 4 #[rv a1] [])
  refine own_outV X1 hx hlk hret (hb hby d7_4) ?_ (by decide) (by decide)
  show QNum h0 n0 _ T1.heap _
  rw [e1]
  exact ⟨rfl, N0, rfl⟩
theorem pn_java_lang_Integer : plainName "java/lang/Integer" = true := by first | (simp [plainName, overriddenIn]; done) | decide +kernel
theorem ef_rmInt (m : MethodId) (x0 : Addr) (x1 : Int32) : entryFrame m #[(.ref x0), (.int x1)] 2 = mkF m 0 #[rv x0, iv x1] [] := by first | (simp [entryFrame, mkF, argsToLocals, Value.category]; done) | rfl
def QInt (Z : State) (a1 : Addr) (h0 : Heap) (n0 : Nat) (v : Option Value) (h : Heap) (L : List Loc) : Prop := v = none ∧ Fr n0 L ∧ Keep h0 h [a1]
theorem d6_0 : decode jdk_33_method_23_code 0 = .ok (.aload_n 0, 1) := by decide +kernel
theorem pd__28_29V : parseMethodDescriptor "()V" = some ⟨[], none⟩ := by decide +kernel
theorem d6_1 : decode jdk_33_method_23_code 1 = .ok (.invokespecial 202, 3) := by decide +kernel
theorem d6_4 : decode jdk_33_method_23_code 4 = .ok (.aload_n 0, 1) := by decide +kernel
theorem d6_5 : decode jdk_33_method_23_code 5 = .ok (.iload_n 1, 1) := by decide +kernel
theorem d6_6 : decode jdk_33_method_23_code 6 = .ok (.putfield 205, 3) := by decide +kernel
theorem d6_9 : decode jdk_33_method_23_code 9 = .ok (.return_, 1) := by decide +kernel
set_option maxRecDepth 65536 in
set_option maxHeartbeats 40000000 in
theorem rmInt (l : Launch) (Z : State) (a0 : Array Value) (hw : ∀ d ∈ tables_1, d.before a0 Z = true) (ws : List Jvm.Cond) (a1 : Addr) (p2 : Int32) (h0 : Heap) (n0 : Nat) (Z0 : n0 ≤ h0.size) (F_v : Fld Z h0 a1 "java/lang/Integer" "value" "I" (.int (0 : Int32))) (E_a1 : Exa Z h0 a1 "java/lang/Integer") (g_a1 : n0 ≤ a1) :
    MetFree l (⟨"java/lang/Integer", "<init>", "(I)V"⟩ : MethodName) (head1 (Jvm.Cond.code (⟨"java/lang/Integer", "<init>", "(I)V"⟩ : MethodName) jdk_33_method_23_code 2 none :: ws) ({ frames := 2, cells := 0, slots := 0, locals := 24 } : Room)) (fun a U => a = #[(.ref a1), (.int p2)] ∧ Z.Warmed39 U.vm ∧ U.heap = h0) (fun _ _ _ _ _ => True) (fun _ U o U' => ∃ v L, o = .returned v ∧ QInt Z a1 h0 n0 v U'.heap L ∧ FrameEnd U o U' L ({ frames := 2, cells := 0, slots := 0, locals := 24 } : Room).cells ({ frames := 2, cells := 0, slots := 0, locals := 24 } : Room).slots) := by
  refine MetFree.of_bodySF (plainFor_of_name pn_java_lang_Integer) hisR ?_
  intro p e s m args below meth c s₁ Bd hml0 hP hK
  obtain ⟨rfl, hZ, hh⟩ := hP
  have hx := Bd.exec
  have hby := Bd.bytes
  have hlk : meth.locks = false := BodyLoose.notSynchronized Bd
  have hml : c.maxLocals = 2 := hml0
  have hown : s.vm.findClass "java/lang/Integer" = some m.cls := findClass_of_methodNamed Bd.named
  have hnm := (name_of_methodNamed Bd.named Bd.method).1
  have X0 : Stand p l e ({ frames := 2, cells := 0, slots := 0, locals := 24 } : Room) s m #[(.ref a1), (.int p2)] below meth c s₁ [] 0 0 := Stand.of_body Bd
  have e0 : s₁.heap = h0 := by rw [← hh, Bd.state]; rfl
  have N0 := Fr.nil n0
  have hret := Bd.returns
  show Goes p e below (fun o U' => ∃ v L, o = .returned v ∧ QInt Z a1 h0 n0 v U'.heap L ∧ FrameEnd s o U' L ({ frames := 2, cells := 0, slots := 0, locals := 24 } : Room).cells ({ frames := 2, cells := 0, slots := 0, locals := 24 } : Room).slots) (s₁.setTop (entryFrame m #[(.ref a1), (.int p2)] 2))
  refine Goes.step ?_ (fun _ k => castTop (ef_rmInt m a1 p2) k)
  show Goes p e below _ (sF s₁ m 0 #[rv a1, iv p2] [])
  refine Goes.step ?_ (fun _ k => XS.aloadN X0.here hx rfl (hb hby d6_0) rfl rfl k)
  show Goes p e below _ (sF s₁ m 1 #[rv a1, iv p2] [(.ref a1)])
  obtain ⟨_, _, ⟨T1, L1, k1, n1⟩, -, X1, ⟨Lc1, hQ1, l1, y1, z1⟩, st1⟩ := X0.specialBack hx (y := (⟨"java/lang/Number", "<init>", "()V"⟩ : MethodName)) rfl hown (mvT hZ (hw _ (List.mem_of_getElem? (i := 42) rfl))) (mvT hZ (hw _ (List.mem_of_getElem? (i := 43) rfl))) (mvT hZ (hw _ (List.mem_of_getElem? (i := 47) rfl))) (by decide) (backOf (W := 0) (rmNum l Z a0 hw [] a1  h0 n0 Z0 ) hZ (hw _ (List.mem_of_getElem? (i := 47) rfl)) (hw _ (List.mem_of_getElem? (i := 46) rfl)) (by decide) (by decide)) (g := (mkF m 1 #[rv a1, iv p2] [(.ref a1)])) rfl (by rw [hml]; rfl) (Steps.refl _) (a := a1) (argsL := []) (rest := []) (lenOf pd__28_29V rfl) rfl (by show 2 * 0 + _ ≤ _; exact Nat.le_of_eq rfl) (hb hby d6_1) (fun _ _ => ⟨rfl, e0, (by decide : 0 + 0 ≤ _), (by decide : 0 + 0 ≤ _)⟩)
  dsimp only [Pt.U, Pt.locs, Pt.cells, Pt.slots] at X1 l1 y1 z1 st1 hQ1
  subst l1 y1 z1
  obtain ⟨rfl, N1q, e1⟩ := hQ1
  have N1 := Fr.app N0 N1q
  refine Goes.step ?_ (fun _ k => st1.trans k)
  show Goes p e below _ (sF T1 m 4 #[rv a1, iv p2] [])
  refine Goes.step ?_ (fun _ k => XS.aloadN X1.here hx rfl (hb hby d6_4) rfl rfl k)
  show Goes p e below _ (sF T1 m 5 #[rv a1, iv p2] [(.ref a1)])
  refine Goes.step ?_ (fun _ k => XS.iloadN X1.here hx rfl (hb hby d6_5) rfl  k)
  show Goes p e below _ (sF T1 m 6 #[rv a1, iv p2] [(.int p2), (.ref a1)])
  obtain ⟨T2, h2, X2, e2, W2, st2⟩ := putF X1 hx hZ hown (host := "") (Or.inl (hw _ (List.mem_of_getElem? (i := 49) rfl))) Via.refl e1 F_v E_a1 (Or.inr ⟨(hw _ (List.mem_of_getElem? (i := 50) rfl)), rfl, hnm⟩) (hw _ (List.mem_of_getElem? (i := 37) rfl)) (ty := .int) (by decide) rfl rfl (g := (mkF m 6 #[rv a1, iv p2] [(.int p2), (.ref a1)])) rfl rfl (hb hby d6_6)
  have Fw2 := F_v.same W2
  have Zs2 : n0 ≤ h2.size := Nat.le_trans Z0 (Keep.of_wr W2).1
  have N2 := Fr.snoc X2 N1 g_a1
  refine Goes.step ?_ st2
  show Goes p e below _ (sF T2 m 9 #[rv a1, iv p2] [])
  refine own_outV X2 hx hlk hret (hb hby d6_9) ?_ (by decide) (by decide)
  show QInt Z a1 h0 n0 _ T2.heap _
  rw [e2]
  exact ⟨rfl, N2, (Keep.refl _ _).wr W2 (Or.inl (List.mem_of_getElem? (i := 0) rfl))⟩
theorem own_cidx (p : Int32) (h1 : ¬ p < (-128 : Int32)) (h2 : ¬ (127 : Int32) < p) : ¬ (p + (128 : Int32)) < 0 ∧ (p + (128 : Int32)).toNatClampNeg < 256 := by
  have e1 : (-128 : Int32).toInt = -128 := by decide
  have e2 : (127 : Int32).toInt = 127 := by decide
  have e3 : (128 : Int32).toInt = 128 := by decide
  have e4 : (0 : Int32).toInt = 0 := by decide
  have c := c_iadd p 128
  have r := rng32 (p + 128)
  rw [Int32.lt_iff_toInt_lt, e1] at h1
  rw [Int32.lt_iff_toInt_lt, e2] at h2
  rw [Int32.lt_iff_toInt_lt, e4, Int32.toNatClampNeg]
  rw [e3] at c
  omega
theorem ef_rmVal (m : MethodId) (x0 : Int32) : entryFrame m #[(.int x0)] 1 = mkF m 0 #[iv x0] [] := by first | (simp [entryFrame, mkF, argsToLocals, Value.category]; done) | rfl
def QVal (Z : State) (h0 : Heap) (n0 : Nat) (v : Option Value) (h : Heap) (L : List Loc) : Prop := ∃ r, v = some (.ref r) ∧ Fr n0 L ∧ Ext h0 h ∧ Exa Z h r "java/lang/Integer"
theorem d5_0 : decode jdk_33_method_22_code 0 = .ok (.iload_n 0, 1) := by decide +kernel
theorem d5_1 : decode jdk_33_method_22_code 1 = .ok (.bipush (-128), 2) := by decide +kernel
theorem d5_3 : decode jdk_33_method_22_code 3 = .ok (.if_icmp .lt 20, 3) := by decide +kernel
theorem d5_23 : decode jdk_33_method_22_code 23 = .ok (.new 1, 3) := by decide +kernel
theorem d5_26 : decode jdk_33_method_22_code 26 = .ok (.dup, 1) := by decide +kernel
theorem d5_27 : decode jdk_33_method_22_code 27 = .ok (.iload_n 0, 1) := by decide +kernel
theorem pd__28I_29V : parseMethodDescriptor "(I)V" = some ⟨[.int], none⟩ := by decide +kernel
theorem d5_28 : decode jdk_33_method_22_code 28 = .ok (.invokespecial 199, 3) := by decide +kernel
theorem d5_31 : decode jdk_33_method_22_code 31 = .ok (.areturn, 1) := by decide +kernel
theorem d5_6 : decode jdk_33_method_22_code 6 = .ok (.iload_n 0, 1) := by decide +kernel
theorem d5_7 : decode jdk_33_method_22_code 7 = .ok (.getstatic 191, 3) := by decide +kernel
theorem d5_10 : decode jdk_33_method_22_code 10 = .ok (.if_icmp .gt 13, 3) := by decide +kernel
theorem d5_13 : decode jdk_33_method_22_code 13 = .ok (.getstatic 195, 3) := by decide +kernel
theorem d5_16 : decode jdk_33_method_22_code 16 = .ok (.iload_n 0, 1) := by decide +kernel
theorem d5_17 : decode jdk_33_method_22_code 17 = .ok (.sipush 128, 3) := by decide +kernel
theorem d5_20 : decode jdk_33_method_22_code 20 = .ok (.iadd, 1) := by decide +kernel
theorem d5_21 : decode jdk_33_method_22_code 21 = .ok (.aaload, 1) := by decide +kernel
theorem d5_22 : decode jdk_33_method_22_code 22 = .ok (.areturn, 1) := by decide +kernel
set_option maxRecDepth 65536 in
set_option maxHeartbeats 40000000 in
theorem rmVal (l : Launch) (Z : State) (a0 : Array Value) (hw : ∀ d ∈ tables_1, d.before a0 Z = true) (ws : List Jvm.Cond) (p1 : Int32) (cc : Addr) (cl : Cell) (h0 : Heap) (n0 : Nat) (Z0 : n0 ≤ h0.size) (O0 : Old Z n0 h0) (S_high : Sta Z Z.heap "java/lang/Integer$IntegerCache" "high" "I" (.int (127 : Int32))) (S_cache : Sta Z Z.heap "java/lang/Integer$IntegerCache" "cache" "[Ljava/lang/Integer;" (.ref cc)) (Ar_cc : Arr Z Z.heap cc cl (.object "java/lang/Integer")) (Sz_cc : cl.slots.size = 256) (Hel : ∀ i, i < 256 → ∃ x, cl.slots[i]? = some (.ref x) ∧ Exa Z Z.heap x "java/lang/Integer") :
    MetFree l (⟨"java/lang/Integer", "valueOf", "(I)Ljava/lang/Integer;"⟩ : MethodName) (head1 (Jvm.Cond.code (⟨"java/lang/Integer", "valueOf", "(I)Ljava/lang/Integer;"⟩ : MethodName) jdk_33_method_22_code 1 (some (.object "java/lang/Integer")) :: ws) ({ frames := 3, cells := 1, slots := 1, locals := 38 } : Room)) (fun a U => a = #[(.int p1)] ∧ Z.Warmed39 U.vm ∧ U.heap = h0) (fun _ _ _ _ _ => True) (fun _ U o U' => ∃ v L, o = .returned v ∧ QVal Z h0 n0 v U'.heap L ∧ FrameEnd U o U' L ({ frames := 3, cells := 1, slots := 1, locals := 38 } : Room).cells ({ frames := 3, cells := 1, slots := 1, locals := 38 } : Room).slots) := by
  refine MetFree.of_bodySF (plainFor_of_name pn_java_lang_Integer) hisR ?_
  intro p e s m args below meth c s₁ Bd hml0 hP hK
  obtain ⟨rfl, hZ, hh⟩ := hP
  have hx := Bd.exec
  have hby := Bd.bytes
  have hlk : meth.locks = false := BodyLoose.notSynchronized Bd
  have hml : c.maxLocals = 1 := hml0
  have hown : s.vm.findClass "java/lang/Integer" = some m.cls := findClass_of_methodNamed Bd.named
  have hnm := (name_of_methodNamed Bd.named Bd.method).1
  have X0 : Stand p l e ({ frames := 3, cells := 1, slots := 1, locals := 38 } : Room) s m #[(.int p1)] below meth c s₁ [] 0 0 := Stand.of_body Bd
  have e0 : s₁.heap = h0 := by rw [← hh, Bd.state]; rfl
  have N0 := Fr.nil n0
  have hret := Bd.returns
  show Goes p e below (fun o U' => ∃ v L, o = .returned v ∧ QVal Z h0 n0 v U'.heap L ∧ FrameEnd s o U' L ({ frames := 3, cells := 1, slots := 1, locals := 38 } : Room).cells ({ frames := 3, cells := 1, slots := 1, locals := 38 } : Room).slots) (s₁.setTop (entryFrame m #[(.int p1)] 1))
  refine Goes.step ?_ (fun _ k => castTop (ef_rmVal m p1) k)
  show Goes p e below _ (sF s₁ m 0 #[iv p1] [])
  refine Goes.step ?_ (fun _ k => XS.iloadN X0.here hx rfl (hb hby d5_0) rfl  k)
  show Goes p e below _ (sF s₁ m 1 #[iv p1] [(.int p1)])
  refine Goes.step ?_ (fun _ k => XS.bipush X0.here hx rfl (hb hby d5_1) k)
  show Goes p e below _ (sF s₁ m 3 #[iv p1] [(.int (-128 : Int32)), (.int p1)])
  by_cases hc3_1 : p1 < (-128 : Int32)
  · refine Goes.step ?_ (fun _ k => XS.icmpYes X0.here hx rfl (pc0 := 3) (pc' := 23) rfl (hb hby d5_3) rfl (tlt hc3_1).1 (by decide) (by decide) k)
    show Goes p e below _ (sF s₁ m 23 #[iv p1] [])
    obtain ⟨T2, h2, X2, e2, E2, A2, D2, -, st2⟩ := newO X0 hx hZ hown (hw _ (List.mem_of_getElem? (i := 36) rfl)) (hw _ (List.mem_of_getElem? (i := 37) rfl)) (hw _ (List.mem_of_getElem? (i := 28) rfl)) e0 (g := (mkF m 23 #[iv p1] [])) rfl (hb hby d5_23) (by decide) (by decide)
    obtain ⟨ob2, g2⟩ : ∃ z, z = h0.size := ⟨_, rfl⟩
    rw [← g2] at A2 D2 st2
    have g_ob2 : n0 ≤ ob2 := Nat.le_trans Z0 (Nat.le_of_eq g2.symm)
    have Zs2 : n0 ≤ h2.size := Nat.le_trans Z0 E2.1
    refine Goes.step ?_ st2
    have F_value_ob2 : Fld Z h2 ob2 "java/lang/Integer" "value" "I" (.int (0 : Int32)) := D2 (Or.inr (hw _ (List.mem_of_getElem? (i := 50) rfl))) (ty := .int) (by decide)
    show Goes p e below _ (sF T2 m 26 #[iv p1] [(.ref ob2)])
    refine Goes.step ?_ (fun _ k => XS.dup X2.here hx rfl (hb hby d5_26) rfl rfl k)
    show Goes p e below _ (sF T2 m 27 #[iv p1] [(.ref ob2), (.ref ob2)])
    refine Goes.step ?_ (fun _ k => XS.iloadN X2.here hx rfl (hb hby d5_27) rfl  k)
    show Goes p e below _ (sF T2 m 28 #[iv p1] [(.int p1), (.ref ob2), (.ref ob2)])
    obtain ⟨_, _, ⟨T3, L3, k3, n3⟩, -, X3, ⟨Lc3, hQ3, l3, y3, z3⟩, st3⟩ := X2.specialBack hx (y := (⟨"java/lang/Integer", "<init>", "(I)V"⟩ : MethodName)) rfl hown (mvT hZ (hw _ (List.mem_of_getElem? (i := 38) rfl))) (mvT hZ (hw _ (List.mem_of_getElem? (i := 39) rfl))) (mvT hZ (hw _ (List.mem_of_getElem? (i := 41) rfl))) (by decide) (backOf (W := 1) (rmInt l Z a0 hw [] ob2 p1  h2 n0 Zs2 F_value_ob2 A2 g_ob2) hZ (hw _ (List.mem_of_getElem? (i := 41) rfl)) (hw _ (List.mem_of_getElem? (i := 28) rfl)) (by decide) (by decide)) (g := (mkF m 28 #[iv p1] [(.int p1), (.ref ob2), (.ref ob2)])) rfl (by rw [hml]; rfl) (Steps.refl _) (a := ob2) (argsL := [(.int p1)]) (rest := [(.ref ob2)]) (lenOf pd__28I_29V rfl) rfl (by show 2 * 0 + _ ≤ _; exact Nat.le_of_eq rfl) (hb hby d5_28) (fun _ _ => ⟨rfl, e2, (by decide : 0 + 1 + 0 ≤ _), (by decide : 0 + 1 + 0 ≤ _)⟩)
    dsimp only [Pt.U, Pt.locs, Pt.cells, Pt.slots] at X3 l3 y3 z3 st3 hQ3
    subst l3 y3 z3
    obtain ⟨rfl, N3q, K3⟩ := hQ3
    have N3 := Fr.app N0 N3q
    refine Goes.step ?_ (fun _ k => st3.trans k)
    have Zs3 : n0 ≤ T3.heap.size := Nat.le_trans Zs2 K3.1
    show Goes p e below _ (sF T3 m 31 #[iv p1] [(.ref ob2)])
    refine own_out X3 hx hlk hret rfl (Or.inr (Or.inr (Or.inr (Or.inr ⟨rfl, rfl, rfl⟩)))) (hb hby d5_31) ?_ (by decide) (by decide)
    show QVal Z h0 n0 _ T3.heap _
    exact ⟨ob2, rfl, N3, own_ext E2 K3 (Nat.le_of_eq g2.symm), A2.keep K3⟩
  · refine Goes.step ?_ (fun _ k => XS.icmpNo X0.here hx rfl (hb hby d5_3) rfl (flt hc3_1).1 k)
    show Goes p e below _ (sF s₁ m 6 #[iv p1] [])
    refine Goes.step ?_ (fun _ k => XS.iloadN X0.here hx rfl (hb hby d5_6) rfl  k)
    show Goes p e below _ (sF s₁ m 7 #[iv p1] [(.int p1)])
    obtain ⟨T4, X4, e4, st4⟩ := getS2 X0 hx hZ hown (host := "") (Or.inl (hw _ (List.mem_of_getElem? (i := 30) rfl))) Via.refl e0 (S_high.ext O0.2) (g := (mkF m 7 #[iv p1] [(.int p1)])) rfl (hb hby d5_7)
    refine Goes.step ?_ st4
    show Goes p e below _ (sF T4 m 10 #[iv p1] [(.int (127 : Int32)), (.int p1)])
    by_cases hc10_5 : (127 : Int32) < p1
    · refine Goes.step ?_ (fun _ k => XS.icmpYes X4.here hx rfl (pc0 := 10) (pc' := 23) rfl (hb hby d5_10) rfl (tlt hc10_5).2.2.1 (by decide) (by decide) k)
      show Goes p e below _ (sF T4 m 23 #[iv p1] [])
      obtain ⟨T6, h6, X6, e6, E6, A6, D6, -, st6⟩ := newO X4 hx hZ hown (hw _ (List.mem_of_getElem? (i := 36) rfl)) (hw _ (List.mem_of_getElem? (i := 37) rfl)) (hw _ (List.mem_of_getElem? (i := 28) rfl)) e4 (g := (mkF m 23 #[iv p1] [])) rfl (hb hby d5_23) (by decide) (by decide)
      obtain ⟨ob6, g6⟩ : ∃ z, z = h0.size := ⟨_, rfl⟩
      rw [← g6] at A6 D6 st6
      have g_ob6 : n0 ≤ ob6 := Nat.le_trans Z0 (Nat.le_of_eq g6.symm)
      have Zs6 : n0 ≤ h6.size := Nat.le_trans Z0 E6.1
      refine Goes.step ?_ st6
      have F_value_ob6 : Fld Z h6 ob6 "java/lang/Integer" "value" "I" (.int (0 : Int32)) := D6 (Or.inr (hw _ (List.mem_of_getElem? (i := 50) rfl))) (ty := .int) (by decide)
      show Goes p e below _ (sF T6 m 26 #[iv p1] [(.ref ob6)])
      refine Goes.step ?_ (fun _ k => XS.dup X6.here hx rfl (hb hby d5_26) rfl rfl k)
      show Goes p e below _ (sF T6 m 27 #[iv p1] [(.ref ob6), (.ref ob6)])
      refine Goes.step ?_ (fun _ k => XS.iloadN X6.here hx rfl (hb hby d5_27) rfl  k)
      show Goes p e below _ (sF T6 m 28 #[iv p1] [(.int p1), (.ref ob6), (.ref ob6)])
      obtain ⟨_, _, ⟨T7, L7, k7, n7⟩, -, X7, ⟨Lc7, hQ7, l7, y7, z7⟩, st7⟩ := X6.specialBack hx (y := (⟨"java/lang/Integer", "<init>", "(I)V"⟩ : MethodName)) rfl hown (mvT hZ (hw _ (List.mem_of_getElem? (i := 38) rfl))) (mvT hZ (hw _ (List.mem_of_getElem? (i := 39) rfl))) (mvT hZ (hw _ (List.mem_of_getElem? (i := 41) rfl))) (by decide) (backOf (W := 1) (rmInt l Z a0 hw [] ob6 p1  h6 n0 Zs6 F_value_ob6 A6 g_ob6) hZ (hw _ (List.mem_of_getElem? (i := 41) rfl)) (hw _ (List.mem_of_getElem? (i := 28) rfl)) (by decide) (by decide)) (g := (mkF m 28 #[iv p1] [(.int p1), (.ref ob6), (.ref ob6)])) rfl (by rw [hml]; rfl) (Steps.refl _) (a := ob6) (argsL := [(.int p1)]) (rest := [(.ref ob6)]) (lenOf pd__28I_29V rfl) rfl (by show 2 * 0 + _ ≤ _; exact Nat.le_of_eq rfl) (hb hby d5_28) (fun _ _ => ⟨rfl, e6, (by decide : 0 + 1 + 0 ≤ _), (by decide : 0 + 1 + 0 ≤ _)⟩)
      dsimp only [Pt.U, Pt.locs, Pt.cells, Pt.slots] at X7 l7 y7 z7 st7 hQ7
      subst l7 y7 z7
      obtain ⟨rfl, N7q, K7⟩ := hQ7
      have N7 := Fr.app N0 N7q
      refine Goes.step ?_ (fun _ k => st7.trans k)
      have Zs7 : n0 ≤ T7.heap.size := Nat.le_trans Zs6 K7.1
      show Goes p e below _ (sF T7 m 31 #[iv p1] [(.ref ob6)])
      refine own_out X7 hx hlk hret rfl (Or.inr (Or.inr (Or.inr (Or.inr ⟨rfl, rfl, rfl⟩)))) (hb hby d5_31) ?_ (by decide) (by decide)
      show QVal Z h0 n0 _ T7.heap _
      exact ⟨ob6, rfl, N7, own_ext E6 K7 (Nat.le_of_eq g6.symm), A6.keep K7⟩
    · refine Goes.step ?_ (fun _ k => XS.icmpNo X4.here hx rfl (hb hby d5_10) rfl (flt hc10_5).2.2.1 k)
      show Goes p e below _ (sF T4 m 13 #[iv p1] [])
      obtain ⟨T8, X8, e8, st8⟩ := getS2 X4 hx hZ hown (host := "") (Or.inl (hw _ (List.mem_of_getElem? (i := 32) rfl))) Via.refl e4 (S_cache.ext O0.2) (g := (mkF m 13 #[iv p1] [])) rfl (hb hby d5_13)
      refine Goes.step ?_ st8
      show Goes p e below _ (sF T8 m 16 #[iv p1] [(.ref cc)])
      refine Goes.step ?_ (fun _ k => XS.iloadN X8.here hx rfl (hb hby d5_16) rfl  k)
      show Goes p e below _ (sF T8 m 17 #[iv p1] [(.int p1), (.ref cc)])
      refine Goes.step ?_ (fun _ k => XS.sipush X8.here hx rfl (hb hby d5_17) k)
      show Goes p e below _ (sF T8 m 20 #[iv p1] [(.int (128 : Int32)), (.int p1), (.ref cc)])
      refine Goes.step ?_ (fun _ k => XS.iadd X8.here hx rfl (hb hby d5_20) rfl k)
      show Goes p e below _ (sF T8 m 21 #[iv p1] [(.int (p1 + (128 : Int32))), (.ref cc)])
      have hj := own_cidx p1 hc3_1 hc10_5
      have Arc := Ar_cc.ext O0.2
      have hin : ¬ ((p1 + (128 : Int32)) < 0 ∨ cl.slots.size ≤ ((p1 + (128 : Int32))).toNatClampNeg) := fun q => q.elim hj.1 (fun r => absurd hj.2 (Nat.not_lt.mpr (Sz_cc ▸ r)))
      obtain ⟨x, hat, Ex⟩ := Hel _ hj.2
      refine Goes.step ?_ (fun _ k => X8.aaload hx (j := (p1 + (128 : Int32))) (v := (.ref x)) (by rw [e8]; exact Arc.1) (State.isArrayOf_alike hZ.alike Arc.2.1) rfl Arc.2.2 hin hat (g := (mkF m 21 #[iv p1] [(.int (p1 + (128 : Int32))), (.ref cc)])) rfl rfl (hb hby d5_21) _ k)
      show Goes p e below _ (sF T8 m 22 #[iv p1] [(.ref x)])
      refine own_out X8 hx hlk hret rfl (Or.inr (Or.inr (Or.inr (Or.inr ⟨rfl, rfl, rfl⟩)))) (hb hby d5_22) ?_ (by decide) (by decide)
      show QVal Z h0 n0 _ T8.heap _
      rw [e8]
      exact ⟨x, rfl, N0, ⟨Nat.le_refl _, fun _ _ q => q⟩, Ex.ext O0.2⟩
def minV (x y : Int32) : Int32 := if y < x then y else x
theorem ef_rmMin (m : MethodId) (x0 : Int32) (x1 : Int32) : entryFrame m #[(.int x0), (.int x1)] 2 = mkF m 0 #[iv x0, iv x1] [] := by first | (simp [entryFrame, mkF, argsToLocals, Value.category]; done) | rfl
def QrmMin (p1 p2 : Int32) (h0 : Heap) (n0 : Nat) (v : Option Value) (h : Heap) (L : List Loc) : Prop := v = some (.int (minV p1 p2)) ∧ Fr n0 L ∧ h = h0
theorem d4_0 : decode jdk_29_method_69_code 0 = .ok (.iload_n 0, 1) := by decide +kernel
theorem d4_1 : decode jdk_29_method_69_code 1 = .ok (.iload_n 1, 1) := by decide +kernel
theorem d4_2 : decode jdk_29_method_69_code 2 = .ok (.if_icmp .gt 7, 3) := by decide +kernel
theorem d4_9 : decode jdk_29_method_69_code 9 = .ok (.iload_n 1, 1) := by decide +kernel
theorem d4_10 : decode jdk_29_method_69_code 10 = .ok (.ireturn, 1) := by decide +kernel
theorem d4_5 : decode jdk_29_method_69_code 5 = .ok (.iload_n 0, 1) := by decide +kernel
theorem d4_6 : decode jdk_29_method_69_code 6 = .ok (.goto 4, 3) := by decide +kernel
set_option maxRecDepth 65536 in
set_option maxHeartbeats 40000000 in
theorem rmMin (l : Launch) (Z : State) (a0 : Array Value) (hw : ∀ d ∈ tables_1, d.before a0 Z = true) (ws : List Jvm.Cond) (p1 : Int32) (p2 : Int32) (h0 : Heap) (n0 : Nat) (Z0 : n0 ≤ h0.size) :
    MetFree l (⟨"java/lang/Math", "min", "(II)I"⟩ : MethodName) (head1 (Jvm.Cond.code (⟨"java/lang/Math", "min", "(II)I"⟩ : MethodName) jdk_29_method_69_code 2 (some .int) :: ws) ({ frames := 0, cells := 0, slots := 0, locals := 0 } : Room)) (fun a U => a = #[(.int p1), (.int p2)] ∧ Z.Warmed39 U.vm ∧ U.heap = h0) (fun _ _ _ _ _ => True) (fun _ U o U' => ∃ v L, o = .returned v ∧ QrmMin p1 p2 h0 n0 v U'.heap L ∧ FrameEnd U o U' L ({ frames := 0, cells := 0, slots := 0, locals := 0 } : Room).cells ({ frames := 0, cells := 0, slots := 0, locals := 0 } : Room).slots) := by
  refine MetFree.of_bodySF (Jvm.Free.JP.mathPlain rfl (by decide +kernel)) hisR ?_
  intro p e s m args below meth c s₁ Bd hml0 hP hK
  obtain ⟨rfl, hZ, hh⟩ := hP
  have hx := Bd.exec
  have hby := Bd.bytes
  have hlk : meth.locks = false := BodyLoose.notSynchronized Bd
  have hml : c.maxLocals = 2 := hml0
  have hown : s.vm.findClass "java/lang/Math" = some m.cls := findClass_of_methodNamed Bd.named
  have hnm := (name_of_methodNamed Bd.named Bd.method).1
  have X0 : Stand p l e ({ frames := 0, cells := 0, slots := 0, locals := 0 } : Room) s m #[(.int p1), (.int p2)] below meth c s₁ [] 0 0 := Stand.of_body Bd
  have e0 : s₁.heap = h0 := by rw [← hh, Bd.state]; rfl
  have N0 := Fr.nil n0
  have hret := Bd.returns
  show Goes p e below (fun o U' => ∃ v L, o = .returned v ∧ QrmMin p1 p2 h0 n0 v U'.heap L ∧ FrameEnd s o U' L ({ frames := 0, cells := 0, slots := 0, locals := 0 } : Room).cells ({ frames := 0, cells := 0, slots := 0, locals := 0 } : Room).slots) (s₁.setTop (entryFrame m #[(.int p1), (.int p2)] 2))
  refine Goes.step ?_ (fun _ k => castTop (ef_rmMin m p1 p2) k)
  show Goes p e below _ (sF s₁ m 0 #[iv p1, iv p2] [])
  refine Goes.step ?_ (fun _ k => XS.iloadN X0.here hx rfl (hb hby d4_0) rfl  k)
  show Goes p e below _ (sF s₁ m 1 #[iv p1, iv p2] [(.int p1)])
  refine Goes.step ?_ (fun _ k => XS.iloadN X0.here hx rfl (hb hby d4_1) rfl  k)
  show Goes p e below _ (sF s₁ m 2 #[iv p1, iv p2] [(.int p2), (.int p1)])
  by_cases hc2_1 : p2 < p1
  · refine Goes.step ?_ (fun _ k => XS.icmpYes X0.here hx rfl (pc0 := 2) (pc' := 9) rfl (hb hby d4_2) rfl (tlt hc2_1).2.2.1 (by decide) (by decide) k)
    show Goes p e below _ (sF s₁ m 9 #[iv p1, iv p2] [])
    refine Goes.step ?_ (fun _ k => XS.iloadN X0.here hx rfl (hb hby d4_9) rfl  k)
    show Goes p e below _ (sF s₁ m 10 #[iv p1, iv p2] [(.int p2)])
    refine own_out X0 hx hlk hret rfl (Or.inl ⟨rfl, by simp, _, rfl⟩) (hb hby d4_10) ?_ (by decide) (by decide)
    show QrmMin p1 p2 h0 n0 _ s₁.heap _
    rw [e0]
    exact ⟨by simp [minV, hc2_1], N0, rfl⟩
  · refine Goes.step ?_ (fun _ k => XS.icmpNo X0.here hx rfl (hb hby d4_2) rfl (flt hc2_1).2.2.1 k)
    show Goes p e below _ (sF s₁ m 5 #[iv p1, iv p2] [])
    refine Goes.step ?_ (fun _ k => XS.iloadN X0.here hx rfl (hb hby d4_5) rfl  k)
    show Goes p e below _ (sF s₁ m 6 #[iv p1, iv p2] [(.int p1)])
    refine Goes.step ?_ (fun _ k => XS.goto X0.here hx rfl (pc0 := 6) (pc' := 10) rfl (hb hby d4_6) (by decide) (by decide) k)
    show Goes p e below _ (sF s₁ m 10 #[iv p1, iv p2] [(.int p1)])
    refine own_out X0 hx hlk hret rfl (Or.inl ⟨rfl, by simp, _, rfl⟩) (hb hby d4_10) ?_ (by decide) (by decide)
    show QrmMin p1 p2 h0 n0 _ s₁.heap _
    rw [e0]
    exact ⟨by simp [minV, hc2_1], N0, rfl⟩
theorem pn_com_example_opicina_opicina_semantics_Estimate : plainName "com/example/opicina/opicina/semantics/Estimate" = true := by first | (simp [plainName, overriddenIn]; done) | decide +kernel
theorem ef_rmNew (m : MethodId) (x0 : Addr) (x1 : Int32) (x2 : Int32) : entryFrame m #[(.ref x0), (.int x1), (.int x2)] 3 = mkF m 0 #[rv x0, iv x1, iv x2] [] := by first | (simp [entryFrame, mkF, argsToLocals, Value.category]; done) | rfl
def QNew (Z : State) (a1 : Addr) (p2 p3 : Int32) (h0 : Heap) (n0 : Nat) (v : Option Value) (h : Heap) (L : List Loc) : Prop := v = none ∧ Fr n0 L ∧ Keep h0 h [a1] ∧ Fld Z h a1 "com/example/opicina/opicina/semantics/Estimate" "satisfied" "I" (.int p2) ∧ Fld Z h a1 "com/example/opicina/opicina/semantics/Estimate" "runs" "I" (.int p3)
theorem d1_0 : decode prog_101_method_1_code 0 = .ok (.aload_n 0, 1) := by decide +kernel
theorem d1_1 : decode prog_101_method_1_code 1 = .ok (.invokespecial 1, 3) := by decide +kernel
theorem d1_4 : decode prog_101_method_1_code 4 = .ok (.iload_n 2, 1) := by decide +kernel
theorem d1_5 : decode prog_101_method_1_code 5 = .ok (.iconst 1, 1) := by decide +kernel
theorem d1_6 : decode prog_101_method_1_code 6 = .ok (.if_icmp .lt 12, 3) := by decide +kernel
theorem d1_9 : decode prog_101_method_1_code 9 = .ok (.iload_n 1, 1) := by decide +kernel
theorem d1_10 : decode prog_101_method_1_code 10 = .ok (.ifCond .lt 8, 3) := by decide +kernel
theorem d1_13 : decode prog_101_method_1_code 13 = .ok (.iload_n 1, 1) := by decide +kernel
theorem d1_14 : decode prog_101_method_1_code 14 = .ok (.iload_n 2, 1) := by decide +kernel
theorem d1_15 : decode prog_101_method_1_code 15 = .ok (.if_icmp .le 18, 3) := by decide +kernel
theorem d1_33 : decode prog_101_method_1_code 33 = .ok (.aload_n 0, 1) := by decide +kernel
theorem d1_34 : decode prog_101_method_1_code 34 = .ok (.iload_n 1, 1) := by decide +kernel
theorem d1_35 : decode prog_101_method_1_code 35 = .ok (.putfield 16, 3) := by decide +kernel
theorem d1_38 : decode prog_101_method_1_code 38 = .ok (.aload_n 0, 1) := by decide +kernel
theorem d1_39 : decode prog_101_method_1_code 39 = .ok (.iload_n 2, 1) := by decide +kernel
theorem d1_40 : decode prog_101_method_1_code 40 = .ok (.putfield 22, 3) := by decide +kernel
theorem d1_43 : decode prog_101_method_1_code 43 = .ok (.return_, 1) := by decide +kernel
set_option maxRecDepth 65536 in
set_option maxHeartbeats 40000000 in
theorem rmNew (l : Launch) (Z : State) (a0 : Array Value) (hw : ∀ d ∈ tables_1, d.before a0 Z = true) (ws : List Jvm.Cond) (a1 : Addr) (p2 : Int32) (p3 : Int32) (h0 : Heap) (n0 : Nat) (Z0 : n0 ≤ h0.size) (F_s : Fld Z h0 a1 "com/example/opicina/opicina/semantics/Estimate" "satisfied" "I" (.int (0 : Int32))) (F_r : Fld Z h0 a1 "com/example/opicina/opicina/semantics/Estimate" "runs" "I" (.int (0 : Int32))) (E_a1 : Exa Z h0 a1 "com/example/opicina/opicina/semantics/Estimate") (g_a1 : n0 ≤ a1) (h1 : ¬ p3 < 1) (h2 : ¬ p2 < 0) (h3 : ¬ p3 < p2) :
    MetFree l (⟨"com/example/opicina/opicina/semantics/Estimate", "<init>", "(II)V"⟩ : MethodName) (head1 (Jvm.Cond.code (⟨"com/example/opicina/opicina/semantics/Estimate", "<init>", "(II)V"⟩ : MethodName) prog_101_method_1_code 3 none :: ws) ({ frames := 1, cells := 0, slots := 0, locals := 12 } : Room)) (fun a U => a = #[(.ref a1), (.int p2), (.int p3)] ∧ Z.Warmed39 U.vm ∧ U.heap = h0) (fun _ _ _ _ _ => True) (fun _ U o U' => ∃ v L, o = .returned v ∧ QNew Z a1 p2 p3 h0 n0 v U'.heap L ∧ FrameEnd U o U' L ({ frames := 1, cells := 0, slots := 0, locals := 12 } : Room).cells ({ frames := 1, cells := 0, slots := 0, locals := 12 } : Room).slots) := by
  refine MetFree.of_bodySF (plainFor_of_name pn_com_example_opicina_opicina_semantics_Estimate) hisR ?_
  intro p e s m args below meth c s₁ Bd hml0 hP hK
  obtain ⟨rfl, hZ, hh⟩ := hP
  have hx := Bd.exec
  have hby := Bd.bytes
  have hlk : meth.locks = false := BodyLoose.notSynchronized Bd
  have hml : c.maxLocals = 3 := hml0
  have hown : s.vm.findClass "com/example/opicina/opicina/semantics/Estimate" = some m.cls := findClass_of_methodNamed Bd.named
  have hnm := (name_of_methodNamed Bd.named Bd.method).1
  have X0 : Stand p l e ({ frames := 1, cells := 0, slots := 0, locals := 12 } : Room) s m #[(.ref a1), (.int p2), (.int p3)] below meth c s₁ [] 0 0 := Stand.of_body Bd
  have e0 : s₁.heap = h0 := by rw [← hh, Bd.state]; rfl
  have N0 := Fr.nil n0
  have hret := Bd.returns
  show Goes p e below (fun o U' => ∃ v L, o = .returned v ∧ QNew Z a1 p2 p3 h0 n0 v U'.heap L ∧ FrameEnd s o U' L ({ frames := 1, cells := 0, slots := 0, locals := 12 } : Room).cells ({ frames := 1, cells := 0, slots := 0, locals := 12 } : Room).slots) (s₁.setTop (entryFrame m #[(.ref a1), (.int p2), (.int p3)] 3))
  refine Goes.step ?_ (fun _ k => castTop (ef_rmNew m a1 p2 p3) k)
  show Goes p e below _ (sF s₁ m 0 #[rv a1, iv p2, iv p3] [])
  refine Goes.step ?_ (fun _ k => XS.aloadN X0.here hx rfl (hb hby d1_0) rfl rfl k)
  show Goes p e below _ (sF s₁ m 1 #[rv a1, iv p2, iv p3] [(.ref a1)])
  obtain ⟨T1, X1, e1, st1⟩ := initO X0 hx hZ hown (hw _ (List.mem_of_getElem? (i := 8) rfl)) (hw _ (List.mem_of_getElem? (i := 9) rfl)) (hw _ (List.mem_of_getElem? (i := 10) rfl)) e0 (g := (mkF m 1 #[rv a1, iv p2, iv p3] [(.ref a1)])) rfl (by rw [hml]; rfl) rfl (hb hby d1_1) (by decide) (W := 0) (by show 2 * 0 + _ ≤ _; exact Nat.le_of_eq rfl) (by decide)
  refine Goes.step ?_ st1
  show Goes p e below _ (sF T1 m 4 #[rv a1, iv p2, iv p3] [])
  refine Goes.step ?_ (fun _ k => XS.iloadN X1.here hx rfl (hb hby d1_4) rfl  k)
  show Goes p e below _ (sF T1 m 5 #[rv a1, iv p2, iv p3] [(.int p3)])
  refine Goes.step ?_ (fun _ k => XS.iconst X1.here hx rfl (hb hby d1_5) k)
  show Goes p e below _ (sF T1 m 6 #[rv a1, iv p2, iv p3] [(.int (1 : Int32)), (.int p3)])
  refine Goes.step ?_ (fun _ k => XS.icmpNo X1.here hx rfl (hb hby d1_6) rfl (flt h1).1 k)
  show Goes p e below _ (sF T1 m 9 #[rv a1, iv p2, iv p3] [])
  refine Goes.step ?_ (fun _ k => XS.iloadN X1.here hx rfl (hb hby d1_9) rfl  k)
  show Goes p e below _ (sF T1 m 10 #[rv a1, iv p2, iv p3] [(.int p2)])
  refine Goes.step ?_ (fun _ k => XS.ifNo X1.here hx rfl (hb hby d1_10) rfl ((if0 _ _).trans (flt h2).1) k)
  show Goes p e below _ (sF T1 m 13 #[rv a1, iv p2, iv p3] [])
  refine Goes.step ?_ (fun _ k => XS.iloadN X1.here hx rfl (hb hby d1_13) rfl  k)
  show Goes p e below _ (sF T1 m 14 #[rv a1, iv p2, iv p3] [(.int p2)])
  refine Goes.step ?_ (fun _ k => XS.iloadN X1.here hx rfl (hb hby d1_14) rfl  k)
  show Goes p e below _ (sF T1 m 15 #[rv a1, iv p2, iv p3] [(.int p3), (.int p2)])
  refine Goes.step ?_ (fun _ k => XS.icmpYes X1.here hx rfl (pc0 := 15) (pc' := 33) rfl (hb hby d1_15) rfl (flt h3).2.2.2 (by decide) (by decide) k)
  show Goes p e below _ (sF T1 m 33 #[rv a1, iv p2, iv p3] [])
  refine Goes.step ?_ (fun _ k => XS.aloadN X1.here hx rfl (hb hby d1_33) rfl rfl k)
  show Goes p e below _ (sF T1 m 34 #[rv a1, iv p2, iv p3] [(.ref a1)])
  refine Goes.step ?_ (fun _ k => XS.iloadN X1.here hx rfl (hb hby d1_34) rfl  k)
  show Goes p e below _ (sF T1 m 35 #[rv a1, iv p2, iv p3] [(.int p2), (.ref a1)])
  obtain ⟨T2, h2, X2, e2, W2, st2⟩ := putF X1 hx hZ hown (host := "") (Or.inl (hw _ (List.mem_of_getElem? (i := 11) rfl))) Via.refl e1 F_s E_a1 (Or.inr ⟨(hw _ (List.mem_of_getElem? (i := 12) rfl)), rfl, hnm⟩) (hw _ (List.mem_of_getElem? (i := 3) rfl)) (ty := .int) (by decide) rfl rfl (g := (mkF m 35 #[rv a1, iv p2, iv p3] [(.int p2), (.ref a1)])) rfl rfl (hb hby d1_35)
  have Fw2 := F_s.same W2
  have Zs2 : n0 ≤ h2.size := Nat.le_trans Z0 (Keep.of_wr W2).1
  have N2 := Fr.snoc X2 N0 g_a1
  refine Goes.step ?_ st2
  show Goes p e below _ (sF T2 m 38 #[rv a1, iv p2, iv p3] [])
  refine Goes.step ?_ (fun _ k => XS.aloadN X2.here hx rfl (hb hby d1_38) rfl rfl k)
  show Goes p e below _ (sF T2 m 39 #[rv a1, iv p2, iv p3] [(.ref a1)])
  refine Goes.step ?_ (fun _ k => XS.iloadN X2.here hx rfl (hb hby d1_39) rfl  k)
  show Goes p e below _ (sF T2 m 40 #[rv a1, iv p2, iv p3] [(.int p3), (.ref a1)])
  have F_a1_runs_4 := (F_r.other W2 (Or.inr (slot_ne (Or.inr (hw _ (List.mem_of_getElem? (i := 14) rfl))) (Or.inr (hw _ (List.mem_of_getElem? (i := 12) rfl))) (by decide) (t := .int) (t' := .int) (by decide) (by decide))))
  have E_a1_5 := (E_a1.wr W2)
  obtain ⟨T3, h3, X3, e3, W3, st3⟩ := putF X2 hx hZ hown (host := "") (Or.inl (hw _ (List.mem_of_getElem? (i := 13) rfl))) Via.refl e2 F_a1_runs_4 E_a1_5 (Or.inr ⟨(hw _ (List.mem_of_getElem? (i := 14) rfl)), rfl, hnm⟩) (hw _ (List.mem_of_getElem? (i := 3) rfl)) (ty := .int) (by decide) rfl rfl (g := (mkF m 40 #[rv a1, iv p2, iv p3] [(.int p3), (.ref a1)])) rfl rfl (hb hby d1_40)
  have Fw3 := F_a1_runs_4.same W3
  have Zs3 : n0 ≤ h3.size := Nat.le_trans Zs2 (Keep.of_wr W3).1
  have N3 := Fr.snoc X3 N2 g_a1
  refine Goes.step ?_ st3
  show Goes p e below _ (sF T3 m 43 #[rv a1, iv p2, iv p3] [])
  refine own_outV X3 hx hlk hret (hb hby d1_43) ?_ (by decide) (by decide)
  show QNew Z a1 p2 p3 h0 n0 _ T3.heap _
  rw [e3]
  exact ⟨rfl, N3, (((Keep.refl _ _).wr W2 (Or.inl (List.mem_of_getElem? (i := 0) rfl))).wr W3 (Or.inl (List.mem_of_getElem? (i := 0) rfl))), (Fw2.other W3 (Or.inr (slot_ne (Or.inr (hw _ (List.mem_of_getElem? (i := 12) rfl))) (Or.inr (hw _ (List.mem_of_getElem? (i := 14) rfl))) (by decide) (t := .int) (t' := .int) (by decide) (by decide)))), Fw3⟩
def eqV (sa ra sb rb : Int32) : Int32 := if sa = sb then (if ra = rb then 1 else 0) else 0
theorem ef_rmEq (m : MethodId) (x0 : Addr) (x1 : Addr) : entryFrame m #[(.ref x0), (.ref x1)] 3 = mkF m 0 #[rv x0, rv x1, .unset] [] := by first | (simp [entryFrame, mkF, argsToLocals, Value.category]; done) | rfl
def QEq (r : Int32) (h0 : Heap) (n0 : Nat) (v : Option Value) (h : Heap) (L : List Loc) : Prop := v = some (.int r) ∧ Fr n0 L ∧ h = h0
theorem d3_0 : decode prog_101_method_9_code 0 = .ok (.aload_n 1, 1) := by decide +kernel
theorem d3_1 : decode prog_101_method_9_code 1 = .ok (.instanceof 17, 3) := by decide +kernel
theorem d3_4 : decode prog_101_method_9_code 4 = .ok (.ifCond .ne 5, 3) := by decide +kernel
theorem d3_9 : decode prog_101_method_9_code 9 = .ok (.aload_n 1, 1) := by decide +kernel
theorem d3_10 : decode prog_101_method_9_code 10 = .ok (.checkcast 17, 3) := by decide +kernel
theorem d3_13 : decode prog_101_method_9_code 13 = .ok (.astore_n 2, 1) := by decide +kernel
theorem d3_14 : decode prog_101_method_9_code 14 = .ok (.aload_n 0, 1) := by decide +kernel
theorem d3_15 : decode prog_101_method_9_code 15 = .ok (.getfield 16, 3) := by decide +kernel
theorem d3_18 : decode prog_101_method_9_code 18 = .ok (.aload_n 2, 1) := by decide +kernel
theorem d3_19 : decode prog_101_method_9_code 19 = .ok (.getfield 16, 3) := by decide +kernel
theorem d3_22 : decode prog_101_method_9_code 22 = .ok (.if_icmp .ne 18, 3) := by decide +kernel
theorem d3_25 : decode prog_101_method_9_code 25 = .ok (.aload_n 0, 1) := by decide +kernel
theorem d3_26 : decode prog_101_method_9_code 26 = .ok (.getfield 22, 3) := by decide +kernel
theorem d3_29 : decode prog_101_method_9_code 29 = .ok (.aload_n 2, 1) := by decide +kernel
theorem d3_30 : decode prog_101_method_9_code 30 = .ok (.getfield 22, 3) := by decide +kernel
theorem d3_33 : decode prog_101_method_9_code 33 = .ok (.if_icmp .ne 7, 3) := by decide +kernel
theorem d3_36 : decode prog_101_method_9_code 36 = .ok (.iconst 1, 1) := by decide +kernel
theorem d3_37 : decode prog_101_method_9_code 37 = .ok (.goto 4, 3) := by decide +kernel
theorem d3_41 : decode prog_101_method_9_code 41 = .ok (.ireturn, 1) := by decide +kernel
theorem d3_40 : decode prog_101_method_9_code 40 = .ok (.iconst 0, 1) := by decide +kernel
set_option maxRecDepth 65536 in
set_option maxHeartbeats 40000000 in
theorem rmEq (l : Launch) (Z : State) (a0 : Array Value) (hw : ∀ d ∈ tables_1, d.before a0 Z = true) (ws : List Jvm.Cond) (a1 : Addr) (a2 : Addr) (sa : Int32) (ra : Int32) (sb : Int32) (rb : Int32) (r : Int32) (h0 : Heap) (n0 : Nat) (Z0 : n0 ≤ h0.size) (E_a2 : Exa Z h0 a2 "com/example/opicina/opicina/semantics/Estimate") (Fs_a1 : Fld Z h0 a1 "com/example/opicina/opicina/semantics/Estimate" "satisfied" "I" (.int sa)) (Fr_a1 : Fld Z h0 a1 "com/example/opicina/opicina/semantics/Estimate" "runs" "I" (.int ra)) (Fs_a2 : Fld Z h0 a2 "com/example/opicina/opicina/semantics/Estimate" "satisfied" "I" (.int sb)) (Fr_a2 : Fld Z h0 a2 "com/example/opicina/opicina/semantics/Estimate" "runs" "I" (.int rb)) (hr : eqV sa ra sb rb = r) :
    MetFree l (⟨"com/example/opicina/opicina/semantics/Estimate", "equals", "(Ljava/lang/Object;)Z"⟩ : MethodName) (head1 (Jvm.Cond.code (⟨"com/example/opicina/opicina/semantics/Estimate", "equals", "(Ljava/lang/Object;)Z"⟩ : MethodName) prog_101_method_9_code 3 (some .boolean) :: ws) ({ frames := 0, cells := 0, slots := 0, locals := 0 } : Room)) (fun a U => a = #[(.ref a1), (.ref a2)] ∧ Z.Warmed39 U.vm ∧ U.heap = h0) (fun _ _ _ _ _ => True) (fun _ U o U' => ∃ v L, o = .returned v ∧ QEq r h0 n0 v U'.heap L ∧ FrameEnd U o U' L ({ frames := 0, cells := 0, slots := 0, locals := 0 } : Room).cells ({ frames := 0, cells := 0, slots := 0, locals := 0 } : Room).slots) := by
  refine MetFree.of_bodySF (plainFor_of_name pn_com_example_opicina_opicina_semantics_Estimate) hisR ?_
  intro p e s m args below meth c s₁ Bd hml0 hP hK
  obtain ⟨rfl, hZ, hh⟩ := hP
  have hx := Bd.exec
  have hby := Bd.bytes
  have hlk : meth.locks = false := BodyLoose.notSynchronized Bd
  have hml : c.maxLocals = 3 := hml0
  have hown : s.vm.findClass "com/example/opicina/opicina/semantics/Estimate" = some m.cls := findClass_of_methodNamed Bd.named
  have hnm := (name_of_methodNamed Bd.named Bd.method).1
  have X0 : Stand p l e ({ frames := 0, cells := 0, slots := 0, locals := 0 } : Room) s m #[(.ref a1), (.ref a2)] below meth c s₁ [] 0 0 := Stand.of_body Bd
  have e0 : s₁.heap = h0 := by rw [← hh, Bd.state]; rfl
  have N0 := Fr.nil n0
  have hret := Bd.returns
  show Goes p e below (fun o U' => ∃ v L, o = .returned v ∧ QEq r h0 n0 v U'.heap L ∧ FrameEnd s o U' L ({ frames := 0, cells := 0, slots := 0, locals := 0 } : Room).cells ({ frames := 0, cells := 0, slots := 0, locals := 0 } : Room).slots) (s₁.setTop (entryFrame m #[(.ref a1), (.ref a2)] 3))
  refine Goes.step ?_ (fun _ k => castTop (ef_rmEq m a1 a2) k)
  show Goes p e below _ (sF s₁ m 0 #[rv a1, rv a2, .unset] [])
  refine Goes.step ?_ (fun _ k => XS.aloadN X0.here hx rfl (hb hby d3_0) rfl rfl k)
  show Goes p e below _ (sF s₁ m 1 #[rv a1, rv a2, .unset] [(.ref a2)])
  obtain ⟨T1, X1, e1, st1⟩ := instY X0 hx hZ hown (hw _ (List.mem_of_getElem? (i := 20) rfl)) e0 (Ins.self E_a2) (g := (mkF m 1 #[rv a1, rv a2, .unset] [(.ref a2)])) rfl rfl (hb hby d3_1)
  refine Goes.step ?_ st1
  show Goes p e below _ (sF T1 m 4 #[rv a1, rv a2, .unset] [(.int (1 : Int32))])
  refine Goes.step ?_ (fun _ k => XS.ifYes X1.here hx rfl (pc0 := 4) (pc' := 9) rfl (hb hby d3_4) rfl ((if0 _ _).trans (feq (by decide : ¬ ((1 : Int32) = (0 : Int32)))).2) (by decide) (by decide) k)
  show Goes p e below _ (sF T1 m 9 #[rv a1, rv a2, .unset] [])
  refine Goes.step ?_ (fun _ k => XS.aloadN X1.here hx rfl (hb hby d3_9) rfl rfl k)
  show Goes p e below _ (sF T1 m 10 #[rv a1, rv a2, .unset] [(.ref a2)])
  obtain ⟨T2, X2, e2, st2⟩ := castY X1 hx hZ hown (hw _ (List.mem_of_getElem? (i := 20) rfl)) e1 (Ins.self E_a2) (g := (mkF m 10 #[rv a1, rv a2, .unset] [(.ref a2)])) rfl rfl (hb hby d3_10)
  refine Goes.step ?_ st2
  show Goes p e below _ (sF T2 m 13 #[rv a1, rv a2, .unset] [(.ref a2)])
  refine Goes.step ?_ (fun _ k => XS.astoreN X2.here hx rfl (hb hby d3_13) rfl rfl (l' := #[rv a1, rv a2, rv a2]) rfl k)
  show Goes p e below _ (sF T2 m 14 #[rv a1, rv a2, rv a2] [])
  refine Goes.step ?_ (fun _ k => XS.aloadN X2.here hx rfl (hb hby d3_14) rfl rfl k)
  show Goes p e below _ (sF T2 m 15 #[rv a1, rv a2, rv a2] [(.ref a1)])
  obtain ⟨T3, X3, e3, st3⟩ := getF X2 hx hZ hown (host := "") (Or.inl (hw _ (List.mem_of_getElem? (i := 11) rfl))) Via.refl e2 Fs_a1 (g := (mkF m 15 #[rv a1, rv a2, rv a2] [(.ref a1)])) rfl rfl (hb hby d3_15)
  refine Goes.step ?_ st3
  show Goes p e below _ (sF T3 m 18 #[rv a1, rv a2, rv a2] [(.int sa)])
  refine Goes.step ?_ (fun _ k => XS.aloadN X3.here hx rfl (hb hby d3_18) rfl rfl k)
  show Goes p e below _ (sF T3 m 19 #[rv a1, rv a2, rv a2] [(.ref a2), (.int sa)])
  obtain ⟨T4, X4, e4, st4⟩ := getF X3 hx hZ hown (host := "") (Or.inl (hw _ (List.mem_of_getElem? (i := 11) rfl))) Via.refl e3 Fs_a2 (g := (mkF m 19 #[rv a1, rv a2, rv a2] [(.ref a2), (.int sa)])) rfl rfl (hb hby d3_19)
  refine Goes.step ?_ st4
  show Goes p e below _ (sF T4 m 22 #[rv a1, rv a2, rv a2] [(.int sb), (.int sa)])
  by_cases hc22_5 : sa = sb
  · refine Goes.step ?_ (fun _ k => XS.icmpNo X4.here hx rfl (hb hby d3_22) rfl (teq hc22_5).2 k)
    show Goes p e below _ (sF T4 m 25 #[rv a1, rv a2, rv a2] [])
    refine Goes.step ?_ (fun _ k => XS.aloadN X4.here hx rfl (hb hby d3_25) rfl rfl k)
    show Goes p e below _ (sF T4 m 26 #[rv a1, rv a2, rv a2] [(.ref a1)])
    obtain ⟨T6, X6, e6, st6⟩ := getF X4 hx hZ hown (host := "") (Or.inl (hw _ (List.mem_of_getElem? (i := 13) rfl))) Via.refl e4 Fr_a1 (g := (mkF m 26 #[rv a1, rv a2, rv a2] [(.ref a1)])) rfl rfl (hb hby d3_26)
    refine Goes.step ?_ st6
    show Goes p e below _ (sF T6 m 29 #[rv a1, rv a2, rv a2] [(.int ra)])
    refine Goes.step ?_ (fun _ k => XS.aloadN X6.here hx rfl (hb hby d3_29) rfl rfl k)
    show Goes p e below _ (sF T6 m 30 #[rv a1, rv a2, rv a2] [(.ref a2), (.int ra)])
    obtain ⟨T7, X7, e7, st7⟩ := getF X6 hx hZ hown (host := "") (Or.inl (hw _ (List.mem_of_getElem? (i := 13) rfl))) Via.refl e6 Fr_a2 (g := (mkF m 30 #[rv a1, rv a2, rv a2] [(.ref a2), (.int ra)])) rfl rfl (hb hby d3_30)
    refine Goes.step ?_ st7
    show Goes p e below _ (sF T7 m 33 #[rv a1, rv a2, rv a2] [(.int rb), (.int ra)])
    by_cases hc33_8 : ra = rb
    · refine Goes.step ?_ (fun _ k => XS.icmpNo X7.here hx rfl (hb hby d3_33) rfl (teq hc33_8).2 k)
      show Goes p e below _ (sF T7 m 36 #[rv a1, rv a2, rv a2] [])
      refine Goes.step ?_ (fun _ k => XS.iconst X7.here hx rfl (hb hby d3_36) k)
      show Goes p e below _ (sF T7 m 37 #[rv a1, rv a2, rv a2] [(.int (1 : Int32))])
      refine Goes.step ?_ (fun _ k => XS.goto X7.here hx rfl (pc0 := 37) (pc' := 41) rfl (hb hby d3_37) (by decide) (by decide) k)
      show Goes p e below _ (sF T7 m 41 #[rv a1, rv a2, rv a2] [(.int (1 : Int32))])
      refine own_out X7 hx hlk hret rfl (Or.inl ⟨rfl, by simp, _, rfl⟩) (hb hby d3_41) ?_ (by decide) (by decide)
      show QEq r h0 n0 _ T7.heap _
      rw [e7]
      exact ⟨by rw [← hr]; simp [eqV, hc22_5, hc33_8], N0, rfl⟩
    · refine Goes.step ?_ (fun _ k => XS.icmpYes X7.here hx rfl (pc0 := 33) (pc' := 40) rfl (hb hby d3_33) rfl (feq hc33_8).2 (by decide) (by decide) k)
      show Goes p e below _ (sF T7 m 40 #[rv a1, rv a2, rv a2] [])
      refine Goes.step ?_ (fun _ k => XS.iconst X7.here hx rfl (hb hby d3_40) k)
      show Goes p e below _ (sF T7 m 41 #[rv a1, rv a2, rv a2] [(.int (0 : Int32))])
      refine own_out X7 hx hlk hret rfl (Or.inl ⟨rfl, by simp, _, rfl⟩) (hb hby d3_41) ?_ (by decide) (by decide)
      show QEq r h0 n0 _ T7.heap _
      rw [e7]
      exact ⟨by rw [← hr]; simp [eqV, hc22_5, hc33_8], N0, rfl⟩
  · refine Goes.step ?_ (fun _ k => XS.icmpYes X4.here hx rfl (pc0 := 22) (pc' := 40) rfl (hb hby d3_22) rfl (feq hc22_5).2 (by decide) (by decide) k)
    show Goes p e below _ (sF T4 m 40 #[rv a1, rv a2, rv a2] [])
    refine Goes.step ?_ (fun _ k => XS.iconst X4.here hx rfl (hb hby d3_40) k)
    show Goes p e below _ (sF T4 m 41 #[rv a1, rv a2, rv a2] [(.int (0 : Int32))])
    refine own_out X4 hx hlk hret rfl (Or.inl ⟨rfl, by simp, _, rfl⟩) (hb hby d3_41) ?_ (by decide) (by decide)
    show QEq r h0 n0 _ T4.heap _
    rw [e4]
    exact ⟨by rw [← hr]; simp [eqV, hc22_5], N0, rfl⟩
theorem ef_rmEqN (m : MethodId) (x0 : Addr) : entryFrame m #[(.ref x0), .null] 3 = mkF m 0 #[rv x0, .val .null, .unset] [] := by first | (simp [entryFrame, mkF, argsToLocals, Value.category]; done) | rfl
theorem d3_7 : decode prog_101_method_9_code 7 = .ok (.iconst 0, 1) := by decide +kernel
theorem d3_8 : decode prog_101_method_9_code 8 = .ok (.ireturn, 1) := by decide +kernel
set_option maxRecDepth 65536 in
set_option maxHeartbeats 40000000 in
theorem rmEqN (l : Launch) (Z : State) (a0 : Array Value) (hw : ∀ d ∈ tables_1, d.before a0 Z = true) (ws : List Jvm.Cond) (a1 : Addr) (h0 : Heap) (n0 : Nat) (Z0 : n0 ≤ h0.size) :
    MetFree l (⟨"com/example/opicina/opicina/semantics/Estimate", "equals", "(Ljava/lang/Object;)Z"⟩ : MethodName) (head1 (Jvm.Cond.code (⟨"com/example/opicina/opicina/semantics/Estimate", "equals", "(Ljava/lang/Object;)Z"⟩ : MethodName) prog_101_method_9_code 3 (some .boolean) :: ws) ({ frames := 0, cells := 0, slots := 0, locals := 0 } : Room)) (fun a U => a = #[(.ref a1), .null] ∧ Z.Warmed39 U.vm ∧ U.heap = h0) (fun _ _ _ _ _ => True) (fun _ U o U' => ∃ v L, o = .returned v ∧ QEq 0 h0 n0 v U'.heap L ∧ FrameEnd U o U' L ({ frames := 0, cells := 0, slots := 0, locals := 0 } : Room).cells ({ frames := 0, cells := 0, slots := 0, locals := 0 } : Room).slots) := by
  refine MetFree.of_bodySF (plainFor_of_name pn_com_example_opicina_opicina_semantics_Estimate) hisR ?_
  intro p e s m args below meth c s₁ Bd hml0 hP hK
  obtain ⟨rfl, hZ, hh⟩ := hP
  have hx := Bd.exec
  have hby := Bd.bytes
  have hlk : meth.locks = false := BodyLoose.notSynchronized Bd
  have hml : c.maxLocals = 3 := hml0
  have hown : s.vm.findClass "com/example/opicina/opicina/semantics/Estimate" = some m.cls := findClass_of_methodNamed Bd.named
  have hnm := (name_of_methodNamed Bd.named Bd.method).1
  have X0 : Stand p l e ({ frames := 0, cells := 0, slots := 0, locals := 0 } : Room) s m #[(.ref a1), .null] below meth c s₁ [] 0 0 := Stand.of_body Bd
  have e0 : s₁.heap = h0 := by rw [← hh, Bd.state]; rfl
  have N0 := Fr.nil n0
  have hret := Bd.returns
  show Goes p e below (fun o U' => ∃ v L, o = .returned v ∧ QEq 0 h0 n0 v U'.heap L ∧ FrameEnd s o U' L ({ frames := 0, cells := 0, slots := 0, locals := 0 } : Room).cells ({ frames := 0, cells := 0, slots := 0, locals := 0 } : Room).slots) (s₁.setTop (entryFrame m #[(.ref a1), .null] 3))
  refine Goes.step ?_ (fun _ k => castTop (ef_rmEqN m a1) k)
  show Goes p e below _ (sF s₁ m 0 #[rv a1, .val .null, .unset] [])
  refine Goes.step ?_ (fun _ k => XS.aloadN X0.here hx rfl (hb hby d3_0) rfl rfl k)
  show Goes p e below _ (sF s₁ m 1 #[rv a1, .val .null, .unset] [.null])
  refine Goes.step ?_ (fun _ k => X0.instanceofNull hx (g := (mkF m 1 #[rv a1, .val .null, .unset] [.null])) rfl rfl (hb hby d3_1) _ k)
  show Goes p e below _ (sF s₁ m 4 #[rv a1, .val .null, .unset] [(.int (0 : Int32))])
  refine Goes.step ?_ (fun _ k => XS.ifNo X0.here hx rfl (hb hby d3_4) rfl ((if0 _ _).trans (teq (by decide : (0 : Int32) = (0 : Int32))).2) k)
  show Goes p e below _ (sF s₁ m 7 #[rv a1, .val .null, .unset] [])
  refine Goes.step ?_ (fun _ k => XS.iconst X0.here hx rfl (hb hby d3_7) k)
  show Goes p e below _ (sF s₁ m 8 #[rv a1, .val .null, .unset] [(.int (0 : Int32))])
  refine own_out X0 hx hlk hret rfl (Or.inl ⟨rfl, by simp, _, rfl⟩) (hb hby d3_8) ?_ (by decide) (by decide)
  show QEq 0 h0 n0 _ s₁.heap _
  rw [e0]
  exact ⟨rfl, N0, rfl⟩
theorem ef_rmEqI (m : MethodId) (x0 : Addr) (x1 : Addr) : entryFrame m #[(.ref x0), (.ref x1)] 3 = mkF m 0 #[rv x0, rv x1, .unset] [] := by first | (simp [entryFrame, mkF, argsToLocals, Value.category]; done) | rfl
set_option maxRecDepth 65536 in
set_option maxHeartbeats 40000000 in
theorem rmEqI (l : Launch) (Z : State) (a0 : Array Value) (hw : ∀ d ∈ tables_1, d.before a0 Z = true) (ws : List Jvm.Cond) (a1 : Addr) (a2 : Addr) (h0 : Heap) (n0 : Nat) (Z0 : n0 ≤ h0.size) (E_a2 : Exa Z h0 a2 "java/lang/Integer") :
    MetFree l (⟨"com/example/opicina/opicina/semantics/Estimate", "equals", "(Ljava/lang/Object;)Z"⟩ : MethodName) (head1 (Jvm.Cond.code (⟨"com/example/opicina/opicina/semantics/Estimate", "equals", "(Ljava/lang/Object;)Z"⟩ : MethodName) prog_101_method_9_code 3 (some .boolean) :: ws) ({ frames := 0, cells := 0, slots := 0, locals := 0 } : Room)) (fun a U => a = #[(.ref a1), (.ref a2)] ∧ Z.Warmed39 U.vm ∧ U.heap = h0) (fun _ _ _ _ _ => True) (fun _ U o U' => ∃ v L, o = .returned v ∧ QEq 0 h0 n0 v U'.heap L ∧ FrameEnd U o U' L ({ frames := 0, cells := 0, slots := 0, locals := 0 } : Room).cells ({ frames := 0, cells := 0, slots := 0, locals := 0 } : Room).slots) := by
  refine MetFree.of_bodySF (plainFor_of_name pn_com_example_opicina_opicina_semantics_Estimate) hisR ?_
  intro p e s m args below meth c s₁ Bd hml0 hP hK
  obtain ⟨rfl, hZ, hh⟩ := hP
  have hx := Bd.exec
  have hby := Bd.bytes
  have hlk : meth.locks = false := BodyLoose.notSynchronized Bd
  have hml : c.maxLocals = 3 := hml0
  have hown : s.vm.findClass "com/example/opicina/opicina/semantics/Estimate" = some m.cls := findClass_of_methodNamed Bd.named
  have hnm := (name_of_methodNamed Bd.named Bd.method).1
  have X0 : Stand p l e ({ frames := 0, cells := 0, slots := 0, locals := 0 } : Room) s m #[(.ref a1), (.ref a2)] below meth c s₁ [] 0 0 := Stand.of_body Bd
  have e0 : s₁.heap = h0 := by rw [← hh, Bd.state]; rfl
  have N0 := Fr.nil n0
  have hret := Bd.returns
  show Goes p e below (fun o U' => ∃ v L, o = .returned v ∧ QEq 0 h0 n0 v U'.heap L ∧ FrameEnd s o U' L ({ frames := 0, cells := 0, slots := 0, locals := 0 } : Room).cells ({ frames := 0, cells := 0, slots := 0, locals := 0 } : Room).slots) (s₁.setTop (entryFrame m #[(.ref a1), (.ref a2)] 3))
  refine Goes.step ?_ (fun _ k => castTop (ef_rmEqI m a1 a2) k)
  show Goes p e below _ (sF s₁ m 0 #[rv a1, rv a2, .unset] [])
  refine Goes.step ?_ (fun _ k => XS.aloadN X0.here hx rfl (hb hby d3_0) rfl rfl k)
  show Goes p e below _ (sF s₁ m 1 #[rv a1, rv a2, .unset] [(.ref a2)])
  obtain ⟨T1, X1, e1, st1⟩ := instNo X0 hx hZ hown (hw _ (List.mem_of_getElem? (i := 20) rfl)) e0 E_a2 (own_no (hw _ (List.mem_of_getElem? (i := 33) rfl)) (hw _ (List.mem_of_getElem? (i := 3) rfl)) (NS.step (hw _ (List.mem_of_getElem? (i := 33) rfl)) (NS.step (hw _ (List.mem_of_getElem? (i := 34) rfl)) (own_NSroot (hw _ (List.mem_of_getElem? (i := 35) rfl)) (hw _ (List.mem_of_getElem? (i := 3) rfl)) (by decide)) (by decide)) (by decide)) (by decide)) (g := (mkF m 1 #[rv a1, rv a2, .unset] [(.ref a2)])) rfl rfl (hb hby d3_1)
  refine Goes.step ?_ st1
  show Goes p e below _ (sF T1 m 4 #[rv a1, rv a2, .unset] [(.int (0 : Int32))])
  refine Goes.step ?_ (fun _ k => XS.ifNo X1.here hx rfl (hb hby d3_4) rfl ((if0 _ _).trans (teq (by decide : (0 : Int32) = (0 : Int32))).2) k)
  show Goes p e below _ (sF T1 m 7 #[rv a1, rv a2, .unset] [])
  refine Goes.step ?_ (fun _ k => XS.iconst X1.here hx rfl (hb hby d3_7) k)
  show Goes p e below _ (sF T1 m 8 #[rv a1, rv a2, .unset] [(.int (0 : Int32))])
  refine own_out X1 hx hlk hret rfl (Or.inl ⟨rfl, by simp, _, rfl⟩) (hb hby d3_8) ?_ (by decide) (by decide)
  show QEq 0 h0 n0 _ T1.heap _
  rw [e1]
  exact ⟨rfl, N0, rfl⟩
def Q0 (n0 : Nat) (v : Option Value) (h : Heap) (L : List Loc) : Prop := v = some (.int 1) ∧ Fr n0 L
theorem pd__28II_29V : parseMethodDescriptor "(II)V" = some ⟨[.int, .int], none⟩ := by decide +kernel
theorem pd__28Ljava_2flang_2fObject_3b_29Z : parseMethodDescriptor "(Ljava/lang/Object;)Z" = some ⟨[(.object "java/lang/Object")], some .boolean⟩ := by decide +kernel
theorem pd__28I_29Ljava_2flang_2fInteger_3b : parseMethodDescriptor "(I)Ljava/lang/Integer;" = some ⟨[.int], some (.object "java/lang/Integer")⟩ := by decide +kernel
set_option maxRecDepth 65536 in
set_option maxHeartbeats 40000000 in
theorem tail81 {p : Program} {l : Launch} {e : Env} {s : State} {m : MethodId} {args : Array Value} {below : List Frame} {meth : Method} {c : Code} {T0 : State} {locs : List Loc} {Z : State} {a0 : Array Value} {h0 : Heap} {n0 : Nat} (p1 : Int32) (p2 : Int32) (p3 : Int32) (p4 : Int32) (p5 : Int32) (runs1 : Int32) (sat1 : Int32) (runs2 : Int32) (sat2 : Int32) (cc : Addr) (cl : Cell)
    (X0 : Stand p l e room_1 s m args below meth c T0 locs (0) (0)) (hx : p.tables.exec = Jvm.exec) (hZ : Z.Warmed39 s.vm) (hw : ∀ d ∈ tables_1, d.before a0 Z = true) (hby : c.code = code) (hlk : meth.locks = false) (hret : meth.sig.returnType = some .boolean) (hml : c.maxLocals = 16) (hown : s.vm.findClass "com/example/opicina/opicina/semantics/EstimateEqualsPinLaw" = some m.cls) (e0 : T0.heap = h0) (N0 : Fr n0 locs) (Z0 : n0 ≤ h0.size) (O0 : Old Z n0 h0) (S_high : Sta Z Z.heap "java/lang/Integer$IntegerCache" "high" "I" (.int (127 : Int32))) (S_cache : Sta Z Z.heap "java/lang/Integer$IntegerCache" "cache" "[Ljava/lang/Integer;" (.ref cc)) (Ar_cc : Arr Z Z.heap cc cl (.object "java/lang/Integer")) (Sz_cc : cl.slots.size = 256) (Hel : ∀ i, i < 256 → ∃ x, cl.slots[i]? = some (.ref x) ∧ Exa Z Z.heap x "java/lang/Integer") (hr1 : ¬ runs1 < 1) (hs1 : ¬ sat1 < 0) (hle1 : ¬ runs1 < sat1) (hr2 : ¬ runs2 < 1) (hs2 : ¬ sat2 < 0) (hle2 : ¬ runs2 < sat2) :
    Goes p e below (fun o U' => ∃ v L, o = .returned v ∧ Q0 n0 v U'.heap L ∧ FrameEnd s o U' L room_1.cells room_1.slots) (T0.setTop (mkF m 81 #[iv p1, iv p2, iv p3, iv p4, iv p5, iv runs1, iv sat1, iv runs2, iv sat2, .unset, .unset, .unset, .unset, .unset, .unset, .unset] [])) := by
  show Goes p e below _ (sF T0 m 81 #[iv p1, iv p2, iv p3, iv p4, iv p5, iv runs1, iv sat1, iv runs2, iv sat2, .unset, .unset, .unset, .unset, .unset, .unset, .unset] [])
  obtain ⟨T1, h1, X1, e1, E1, A1, D1, -, st1⟩ := newO X0 hx hZ hown (hw _ (List.mem_of_getElem? (i := 2) rfl)) (hw _ (List.mem_of_getElem? (i := 3) rfl)) (hw _ (List.mem_of_getElem? (i := 4) rfl)) e0 (g := (mkF m 81 #[iv p1, iv p2, iv p3, iv p4, iv p5, iv runs1, iv sat1, iv runs2, iv sat2, .unset, .unset, .unset, .unset, .unset, .unset, .unset] [])) rfl (hb hby at_81) (by decide) (by decide)
  obtain ⟨ob1, g1⟩ : ∃ z, z = h0.size := ⟨_, rfl⟩
  rw [← g1] at A1 D1 st1
  have g_ob1 : n0 ≤ ob1 := Nat.le_trans Z0 (Nat.le_of_eq g1.symm)
  have Zs1 : n0 ≤ h1.size := Nat.le_trans Z0 E1.1
  refine Goes.step ?_ st1
  have F_satisfied_ob1 : Fld Z h1 ob1 "com/example/opicina/opicina/semantics/Estimate" "satisfied" "I" (.int (0 : Int32)) := D1 (Or.inr (hw _ (List.mem_of_getElem? (i := 12) rfl))) (ty := .int) (by decide)
  have F_runs_ob1 : Fld Z h1 ob1 "com/example/opicina/opicina/semantics/Estimate" "runs" "I" (.int (0 : Int32)) := D1 (Or.inr (hw _ (List.mem_of_getElem? (i := 14) rfl))) (ty := .int) (by decide)
  show Goes p e below _ (sF T1 m 84 #[iv p1, iv p2, iv p3, iv p4, iv p5, iv runs1, iv sat1, iv runs2, iv sat2, .unset, .unset, .unset, .unset, .unset, .unset, .unset] [(.ref ob1)])
  refine Goes.step ?_ (fun _ k => XS.dup X1.here hx rfl (hb hby at_84) rfl rfl k)
  show Goes p e below _ (sF T1 m 85 #[iv p1, iv p2, iv p3, iv p4, iv p5, iv runs1, iv sat1, iv runs2, iv sat2, .unset, .unset, .unset, .unset, .unset, .unset, .unset] [(.ref ob1), (.ref ob1)])
  refine Goes.step ?_ (fun _ k => XS.iload X1.here hx rfl (hb hby at_85) rfl  k)
  show Goes p e below _ (sF T1 m 87 #[iv p1, iv p2, iv p3, iv p4, iv p5, iv runs1, iv sat1, iv runs2, iv sat2, .unset, .unset, .unset, .unset, .unset, .unset, .unset] [(.int sat1), (.ref ob1), (.ref ob1)])
  refine Goes.step ?_ (fun _ k => XS.iload X1.here hx rfl (hb hby at_87) rfl  k)
  show Goes p e below _ (sF T1 m 89 #[iv p1, iv p2, iv p3, iv p4, iv p5, iv runs1, iv sat1, iv runs2, iv sat2, .unset, .unset, .unset, .unset, .unset, .unset, .unset] [(.int runs1), (.int sat1), (.ref ob1), (.ref ob1)])
  obtain ⟨_, _, ⟨T2, L2, k2, n2⟩, -, X2, ⟨Lc2, hQ2, l2, y2, z2⟩, st2⟩ := X1.specialBack hx (y := (⟨"com/example/opicina/opicina/semantics/Estimate", "<init>", "(II)V"⟩ : MethodName)) rfl hown (mvT hZ (hw _ (List.mem_of_getElem? (i := 5) rfl))) (mvT hZ (hw _ (List.mem_of_getElem? (i := 6) rfl))) (mvT hZ (hw _ (List.mem_of_getElem? (i := 7) rfl))) (by decide) (backOf (W := 1) (rmNew l Z a0 hw [] ob1 sat1 runs1  h1 n0 Zs1 F_satisfied_ob1 F_runs_ob1 A1 g_ob1 hr1 hs1 hle1) hZ (hw _ (List.mem_of_getElem? (i := 7) rfl)) (hw _ (List.mem_of_getElem? (i := 4) rfl)) (by decide) (by decide)) (g := (mkF m 89 #[iv p1, iv p2, iv p3, iv p4, iv p5, iv runs1, iv sat1, iv runs2, iv sat2, .unset, .unset, .unset, .unset, .unset, .unset, .unset] [(.int runs1), (.int sat1), (.ref ob1), (.ref ob1)])) rfl (by rw [hml]; rfl) (Steps.refl _) (a := ob1) (argsL := [(.int sat1), (.int runs1)]) (rest := [(.ref ob1)]) (lenOf pd__28II_29V rfl) rfl (by show 2 * 0 + _ ≤ _; exact Nat.le_of_eq rfl) (hb hby at_89) (fun _ _ => ⟨rfl, e1, (by decide : 0 + 1 + 0 ≤ _), (by decide : 0 + 2 + 0 ≤ _)⟩)
  dsimp only [Pt.U, Pt.locs, Pt.cells, Pt.slots] at X2 l2 y2 z2 st2 hQ2
  subst l2 y2 z2
  obtain ⟨rfl, N2q, K2, Gs2, Gr2⟩ := hQ2
  have N2 := Fr.app N0 N2q
  refine Goes.step ?_ (fun _ k => st2.trans k)
  have Zs2 : n0 ≤ T2.heap.size := Nat.le_trans Zs1 K2.1
  show Goes p e below _ (sF T2 m 92 #[iv p1, iv p2, iv p3, iv p4, iv p5, iv runs1, iv sat1, iv runs2, iv sat2, .unset, .unset, .unset, .unset, .unset, .unset, .unset] [(.ref ob1)])
  refine Goes.step ?_ (fun _ k => XS.astore X2.here hx rfl (hb hby at_92) rfl rfl (l' := #[iv p1, iv p2, iv p3, iv p4, iv p5, iv runs1, iv sat1, iv runs2, iv sat2, rv ob1, .unset, .unset, .unset, .unset, .unset, .unset]) rfl k)
  show Goes p e below _ (sF T2 m 94 #[iv p1, iv p2, iv p3, iv p4, iv p5, iv runs1, iv sat1, iv runs2, iv sat2, rv ob1, .unset, .unset, .unset, .unset, .unset, .unset] [])
  obtain ⟨T3, h3, X3, e3, E3, A3, D3, -, st3⟩ := newO X2 hx hZ hown (hw _ (List.mem_of_getElem? (i := 2) rfl)) (hw _ (List.mem_of_getElem? (i := 3) rfl)) (hw _ (List.mem_of_getElem? (i := 4) rfl)) rfl (g := (mkF m 94 #[iv p1, iv p2, iv p3, iv p4, iv p5, iv runs1, iv sat1, iv runs2, iv sat2, rv ob1, .unset, .unset, .unset, .unset, .unset, .unset] [])) rfl (hb hby at_94) (by decide) (by decide)
  obtain ⟨ob3, g3⟩ : ∃ z, z = T2.heap.size := ⟨_, rfl⟩
  rw [← g3] at A3 D3 st3
  have g_ob3 : n0 ≤ ob3 := Nat.le_trans Zs2 (Nat.le_of_eq g3.symm)
  have E_ob1_4 := (A1.keep K2)
  have ne_ob1_ob3 : ob1 ≠ ob3 := Nat.ne_of_lt (Nat.lt_of_lt_of_le E_ob1_4.lt (Nat.le_of_eq g3.symm))
  have Zs3 : n0 ≤ h3.size := Nat.le_trans Zs2 E3.1
  refine Goes.step ?_ st3
  have F_satisfied_ob3 : Fld Z h3 ob3 "com/example/opicina/opicina/semantics/Estimate" "satisfied" "I" (.int (0 : Int32)) := D3 (Or.inr (hw _ (List.mem_of_getElem? (i := 12) rfl))) (ty := .int) (by decide)
  have F_runs_ob3 : Fld Z h3 ob3 "com/example/opicina/opicina/semantics/Estimate" "runs" "I" (.int (0 : Int32)) := D3 (Or.inr (hw _ (List.mem_of_getElem? (i := 14) rfl))) (ty := .int) (by decide)
  show Goes p e below _ (sF T3 m 97 #[iv p1, iv p2, iv p3, iv p4, iv p5, iv runs1, iv sat1, iv runs2, iv sat2, rv ob1, .unset, .unset, .unset, .unset, .unset, .unset] [(.ref ob3)])
  refine Goes.step ?_ (fun _ k => XS.dup X3.here hx rfl (hb hby at_97) rfl rfl k)
  show Goes p e below _ (sF T3 m 98 #[iv p1, iv p2, iv p3, iv p4, iv p5, iv runs1, iv sat1, iv runs2, iv sat2, rv ob1, .unset, .unset, .unset, .unset, .unset, .unset] [(.ref ob3), (.ref ob3)])
  refine Goes.step ?_ (fun _ k => XS.iload X3.here hx rfl (hb hby at_98) rfl  k)
  show Goes p e below _ (sF T3 m 100 #[iv p1, iv p2, iv p3, iv p4, iv p5, iv runs1, iv sat1, iv runs2, iv sat2, rv ob1, .unset, .unset, .unset, .unset, .unset, .unset] [(.int sat2), (.ref ob3), (.ref ob3)])
  refine Goes.step ?_ (fun _ k => XS.iload X3.here hx rfl (hb hby at_100) rfl  k)
  show Goes p e below _ (sF T3 m 102 #[iv p1, iv p2, iv p3, iv p4, iv p5, iv runs1, iv sat1, iv runs2, iv sat2, rv ob1, .unset, .unset, .unset, .unset, .unset, .unset] [(.int runs2), (.int sat2), (.ref ob3), (.ref ob3)])
  obtain ⟨_, _, ⟨T5, L5, k5, n5⟩, -, X5, ⟨Lc5, hQ5, l5, y5, z5⟩, st5⟩ := X3.specialBack hx (y := (⟨"com/example/opicina/opicina/semantics/Estimate", "<init>", "(II)V"⟩ : MethodName)) rfl hown (mvT hZ (hw _ (List.mem_of_getElem? (i := 5) rfl))) (mvT hZ (hw _ (List.mem_of_getElem? (i := 6) rfl))) (mvT hZ (hw _ (List.mem_of_getElem? (i := 7) rfl))) (by decide) (backOf (W := 1) (rmNew l Z a0 hw [] ob3 sat2 runs2  h3 n0 Zs3 F_satisfied_ob3 F_runs_ob3 A3 g_ob3 hr2 hs2 hle2) hZ (hw _ (List.mem_of_getElem? (i := 7) rfl)) (hw _ (List.mem_of_getElem? (i := 4) rfl)) (by decide) (by decide)) (g := (mkF m 102 #[iv p1, iv p2, iv p3, iv p4, iv p5, iv runs1, iv sat1, iv runs2, iv sat2, rv ob1, .unset, .unset, .unset, .unset, .unset, .unset] [(.int runs2), (.int sat2), (.ref ob3), (.ref ob3)])) rfl (by rw [hml]; rfl) (Steps.refl _) (a := ob3) (argsL := [(.int sat2), (.int runs2)]) (rest := [(.ref ob3)]) (lenOf pd__28II_29V rfl) rfl (by show 2 * 0 + _ ≤ _; exact Nat.le_of_eq rfl) (hb hby at_102) (fun _ _ => ⟨rfl, e3, (by decide : 0 + 1 + 1 + 0 ≤ _), (by decide : 0 + 2 + 2 + 0 ≤ _)⟩)
  dsimp only [Pt.U, Pt.locs, Pt.cells, Pt.slots] at X5 l5 y5 z5 st5 hQ5
  subst l5 y5 z5
  obtain ⟨rfl, N5q, K5, Gs5, Gr5⟩ := hQ5
  have N5 := Fr.app N2 N5q
  refine Goes.step ?_ (fun _ k => st5.trans k)
  have Zs5 : n0 ≤ T5.heap.size := Nat.le_trans Zs3 K5.1
  show Goes p e below _ (sF T5 m 105 #[iv p1, iv p2, iv p3, iv p4, iv p5, iv runs1, iv sat1, iv runs2, iv sat2, rv ob1, .unset, .unset, .unset, .unset, .unset, .unset] [(.ref ob3)])
  refine Goes.step ?_ (fun _ k => XS.astore X5.here hx rfl (hb hby at_105) rfl rfl (l' := #[iv p1, iv p2, iv p3, iv p4, iv p5, iv runs1, iv sat1, iv runs2, iv sat2, rv ob1, rv ob3, .unset, .unset, .unset, .unset, .unset]) rfl k)
  show Goes p e below _ (sF T5 m 107 #[iv p1, iv p2, iv p3, iv p4, iv p5, iv runs1, iv sat1, iv runs2, iv sat2, rv ob1, rv ob3, .unset, .unset, .unset, .unset, .unset] [])
  refine Goes.step ?_ (fun _ k => XS.iload X5.here hx rfl (hb hby at_107) rfl  k)
  show Goes p e below _ (sF T5 m 109 #[iv p1, iv p2, iv p3, iv p4, iv p5, iv runs1, iv sat1, iv runs2, iv sat2, rv ob1, rv ob3, .unset, .unset, .unset, .unset, .unset] [(.int p5)])
  refine Goes.step ?_ (fun _ k => XS.iconst X5.here hx rfl (hb hby at_109) k)
  show Goes p e below _ (sF T5 m 110 #[iv p1, iv p2, iv p3, iv p4, iv p5, iv runs1, iv sat1, iv runs2, iv sat2, rv ob1, rv ob3, .unset, .unset, .unset, .unset, .unset] [(.int (2 : Int32)), (.int p5)])
  refine Goes.step ?_ (fun _ k => XS.ishr X5.here hx rfl (hb hby at_110) rfl k)
  show Goes p e below _ (sF T5 m 111 #[iv p1, iv p2, iv p3, iv p4, iv p5, iv runs1, iv sat1, iv runs2, iv sat2, rv ob1, rv ob3, .unset, .unset, .unset, .unset, .unset] [(.int (p5 >>> ((2 : Int32) &&& 31)))])
  refine Goes.step ?_ (fun _ k => XS.iconst X5.here hx rfl (hb hby at_111) k)
  show Goes p e below _ (sF T5 m 112 #[iv p1, iv p2, iv p3, iv p4, iv p5, iv runs1, iv sat1, iv runs2, iv sat2, rv ob1, rv ob3, .unset, .unset, .unset, .unset, .unset] [(.int (3 : Int32)), (.int (p5 >>> ((2 : Int32) &&& 31)))])
  refine Goes.step ?_ (fun _ k => XS.iand X5.here hx rfl (hb hby at_112) rfl k)
  show Goes p e below _ (sF T5 m 113 #[iv p1, iv p2, iv p3, iv p4, iv p5, iv runs1, iv sat1, iv runs2, iv sat2, rv ob1, rv ob3, .unset, .unset, .unset, .unset, .unset] [(.int ((p5 >>> ((2 : Int32) &&& 31)) &&& (3 : Int32)))])
  refine Goes.step ?_ (fun _ k => XS.istore X5.here hx rfl (hb hby at_113) rfl (l' := #[iv p1, iv p2, iv p3, iv p4, iv p5, iv runs1, iv sat1, iv runs2, iv sat2, rv ob1, rv ob3, iv ((p5 >>> ((2 : Int32) &&& 31)) &&& (3 : Int32)), .unset, .unset, .unset, .unset]) rfl k)
  show Goes p e below _ (sF T5 m 115 #[iv p1, iv p2, iv p3, iv p4, iv p5, iv runs1, iv sat1, iv runs2, iv sat2, rv ob1, rv ob3, iv ((p5 >>> ((2 : Int32) &&& 31)) &&& (3 : Int32)), .unset, .unset, .unset, .unset] [])
  refine Goes.step ?_ (fun _ k => XS.iload X5.here hx rfl (hb hby at_115) rfl  k)
  show Goes p e below _ (sF T5 m 117 #[iv p1, iv p2, iv p3, iv p4, iv p5, iv runs1, iv sat1, iv runs2, iv sat2, rv ob1, rv ob3, iv ((p5 >>> ((2 : Int32) &&& 31)) &&& (3 : Int32)), .unset, .unset, .unset, .unset] [(.int ((p5 >>> ((2 : Int32) &&& 31)) &&& (3 : Int32)))])
  by_cases hc117_6 : ((p5 >>> ((2 : Int32) &&& 31)) &&& (3 : Int32)) = (0 : Int32)
  · refine Goes.step ?_ (fun _ k => XS.ifNo X5.here hx rfl (hb hby at_117) rfl ((if0 _ _).trans (teq hc117_6).2) k)
    show Goes p e below _ (sF T5 m 120 #[iv p1, iv p2, iv p3, iv p4, iv p5, iv runs1, iv sat1, iv runs2, iv sat2, rv ob1, rv ob3, iv ((p5 >>> ((2 : Int32) &&& 31)) &&& (3 : Int32)), .unset, .unset, .unset, .unset] [])
    refine Goes.step ?_ (fun _ k => XS.iload X5.here hx rfl (hb hby at_120) rfl  k)
    show Goes p e below _ (sF T5 m 122 #[iv p1, iv p2, iv p3, iv p4, iv p5, iv runs1, iv sat1, iv runs2, iv sat2, rv ob1, rv ob3, iv ((p5 >>> ((2 : Int32) &&& 31)) &&& (3 : Int32)), .unset, .unset, .unset, .unset] [(.int sat1)])
    refine Goes.step ?_ (fun _ k => XS.iload X5.here hx rfl (hb hby at_122) rfl  k)
    show Goes p e below _ (sF T5 m 124 #[iv p1, iv p2, iv p3, iv p4, iv p5, iv runs1, iv sat1, iv runs2, iv sat2, rv ob1, rv ob3, iv ((p5 >>> ((2 : Int32) &&& 31)) &&& (3 : Int32)), .unset, .unset, .unset, .unset] [(.int sat2), (.int sat1)])
    by_cases hc124_7 : sat1 = sat2
    · refine Goes.step ?_ (fun _ k => XS.icmpNo X5.here hx rfl (hb hby at_124) rfl (teq hc124_7).2 k)
      show Goes p e below _ (sF T5 m 127 #[iv p1, iv p2, iv p3, iv p4, iv p5, iv runs1, iv sat1, iv runs2, iv sat2, rv ob1, rv ob3, iv ((p5 >>> ((2 : Int32) &&& 31)) &&& (3 : Int32)), .unset, .unset, .unset, .unset] [])
      refine Goes.step ?_ (fun _ k => XS.iload X5.here hx rfl (hb hby at_127) rfl  k)
      show Goes p e below _ (sF T5 m 129 #[iv p1, iv p2, iv p3, iv p4, iv p5, iv runs1, iv sat1, iv runs2, iv sat2, rv ob1, rv ob3, iv ((p5 >>> ((2 : Int32) &&& 31)) &&& (3 : Int32)), .unset, .unset, .unset, .unset] [(.int runs1)])
      refine Goes.step ?_ (fun _ k => XS.iload X5.here hx rfl (hb hby at_129) rfl  k)
      show Goes p e below _ (sF T5 m 131 #[iv p1, iv p2, iv p3, iv p4, iv p5, iv runs1, iv sat1, iv runs2, iv sat2, rv ob1, rv ob3, iv ((p5 >>> ((2 : Int32) &&& 31)) &&& (3 : Int32)), .unset, .unset, .unset, .unset] [(.int runs2), (.int runs1)])
      by_cases hc131_8 : runs1 = runs2
      · refine Goes.step ?_ (fun _ k => XS.icmpNo X5.here hx rfl (hb hby at_131) rfl (teq hc131_8).2 k)
        show Goes p e below _ (sF T5 m 134 #[iv p1, iv p2, iv p3, iv p4, iv p5, iv runs1, iv sat1, iv runs2, iv sat2, rv ob1, rv ob3, iv ((p5 >>> ((2 : Int32) &&& 31)) &&& (3 : Int32)), .unset, .unset, .unset, .unset] [])
        refine Goes.step ?_ (fun _ k => XS.iconst X5.here hx rfl (hb hby at_134) k)
        show Goes p e below _ (sF T5 m 135 #[iv p1, iv p2, iv p3, iv p4, iv p5, iv runs1, iv sat1, iv runs2, iv sat2, rv ob1, rv ob3, iv ((p5 >>> ((2 : Int32) &&& 31)) &&& (3 : Int32)), .unset, .unset, .unset, .unset] [(.int (1 : Int32))])
        refine Goes.step ?_ (fun _ k => XS.goto X5.here hx rfl (pc0 := 135) (pc' := 139) rfl (hb hby at_135) (by decide) (by decide) k)
        show Goes p e below _ (sF T5 m 139 #[iv p1, iv p2, iv p3, iv p4, iv p5, iv runs1, iv sat1, iv runs2, iv sat2, rv ob1, rv ob3, iv ((p5 >>> ((2 : Int32) &&& 31)) &&& (3 : Int32)), .unset, .unset, .unset, .unset] [(.int (1 : Int32))])
        refine Goes.step ?_ (fun _ k => XS.istore X5.here hx rfl (hb hby at_139) rfl (l' := #[iv p1, iv p2, iv p3, iv p4, iv p5, iv runs1, iv sat1, iv runs2, iv sat2, rv ob1, rv ob3, iv ((p5 >>> ((2 : Int32) &&& 31)) &&& (3 : Int32)), .unset, iv (1 : Int32), .unset, .unset]) rfl k)
        show Goes p e below _ (sF T5 m 141 #[iv p1, iv p2, iv p3, iv p4, iv p5, iv runs1, iv sat1, iv runs2, iv sat2, rv ob1, rv ob3, iv ((p5 >>> ((2 : Int32) &&& 31)) &&& (3 : Int32)), .unset, iv (1 : Int32), .unset, .unset] [])
        refine Goes.step ?_ (fun _ k => XS.aload X5.here hx rfl (hb hby at_141) rfl rfl k)
        show Goes p e below _ (sF T5 m 143 #[iv p1, iv p2, iv p3, iv p4, iv p5, iv runs1, iv sat1, iv runs2, iv sat2, rv ob1, rv ob3, iv ((p5 >>> ((2 : Int32) &&& 31)) &&& (3 : Int32)), .unset, iv (1 : Int32), .unset, .unset] [(.ref ob1)])
        refine Goes.step ?_ (fun _ k => XS.aload X5.here hx rfl (hb hby at_143) rfl rfl k)
        show Goes p e below _ (sF T5 m 145 #[iv p1, iv p2, iv p3, iv p4, iv p5, iv runs1, iv sat1, iv runs2, iv sat2, rv ob1, rv ob3, iv ((p5 >>> ((2 : Int32) &&& 31)) &&& (3 : Int32)), .unset, iv (1 : Int32), .unset, .unset] [(.ref ob3), (.ref ob1)])
        have E_ob3_9 := (A3.keep K5)
        have F_ob1_satisfied_10 := ((Gs2.ext E3).keep K5 (ninS ne_ob1_ob3 nin0))
        have F_ob1_runs_11 := ((Gr2.ext E3).keep K5 (ninS ne_ob1_ob3 nin0))
        have E_ob1_13 := ((E_ob1_4.ext E3).keep K5)
        obtain ⟨cq12, kq12, q12a, q12b, q12c⟩ := isOf hZ rfl E_ob1_13
        obtain ⟨_, _, ⟨T12, L12, k12, n12⟩, -, X12, ⟨Lc12, hQ12, l12, y12, z12⟩, st12⟩ := X5.virtualBack hx (y := (⟨"com/example/opicina/opicina/semantics/Estimate", "equals", "(Ljava/lang/Object;)Z"⟩ : MethodName)) (z := (⟨"com/example/opicina/opicina/semantics/Estimate", "equals", "(Ljava/lang/Object;)Z"⟩ : MethodName)) hown (mvT hZ (hw _ (List.mem_of_getElem? (i := 15) rfl))) (mvT hZ (hw _ (List.mem_of_getElem? (i := 16) rfl))) (notFace_of_selects (args := #[]) (mvT hZ (hw _ (List.mem_of_getElem? (i := 18) rfl)))) (mvT hZ (hw _ (List.mem_of_getElem? (i := 18) rfl))) (mvT hZ (hw _ (List.mem_of_getElem? (i := 17) rfl))) (by decide) (backOf (W := 0) (rmEq l Z a0 hw [] ob1 ob3 sat1 runs1 sat2 runs2 1 T5.heap n0 Zs5 E_ob3_9 F_ob1_satisfied_10 F_ob1_runs_11 Gs5 Gr5 (by unfold eqV; rw [if_pos hc124_7, if_pos hc131_8])) hZ (hw _ (List.mem_of_getElem? (i := 19) rfl)) (hw _ (List.mem_of_getElem? (i := 4) rfl)) (by decide) (by decide)) q12a q12c (g := (mkF m 145 #[iv p1, iv p2, iv p3, iv p4, iv p5, iv runs1, iv sat1, iv runs2, iv sat2, rv ob1, rv ob3, iv ((p5 >>> ((2 : Int32) &&& 31)) &&& (3 : Int32)), .unset, iv (1 : Int32), .unset, .unset] [(.ref ob3), (.ref ob1)])) rfl (by rw [hml]; rfl) (Steps.refl _) (argsL := [(.ref ob3)]) (rest := []) (lenOf pd__28Ljava_2flang_2fObject_3b_29Z rfl) rfl (by show 2 * 0 + _ ≤ _; exact Nat.le_of_eq rfl) (hb hby at_145) (fun _ _ => ⟨rfl, rfl, (by decide : 0 + 1 + 1 + 0 ≤ _), (by decide : 0 + 2 + 2 + 0 ≤ _)⟩)
        dsimp only [Pt.U, Pt.locs, Pt.cells, Pt.slots] at X12 l12 y12 z12 st12 hQ12
        subst l12 y12 z12
        obtain ⟨rfl, N12q, e12⟩ := hQ12
        have N12 := Fr.app N5 N12q
        refine Goes.step ?_ (fun _ k => st12.trans k)
        show Goes p e below _ (sF T12 m 148 #[iv p1, iv p2, iv p3, iv p4, iv p5, iv runs1, iv sat1, iv runs2, iv sat2, rv ob1, rv ob3, iv ((p5 >>> ((2 : Int32) &&& 31)) &&& (3 : Int32)), .unset, iv (1 : Int32), .unset, .unset] [(.int (1 : Int32))])
        refine Goes.step ?_ (fun _ k => XS.istore X12.here hx rfl (hb hby at_148) rfl (l' := #[iv p1, iv p2, iv p3, iv p4, iv p5, iv runs1, iv sat1, iv runs2, iv sat2, rv ob1, rv ob3, iv ((p5 >>> ((2 : Int32) &&& 31)) &&& (3 : Int32)), .unset, iv (1 : Int32), iv (1 : Int32), .unset]) rfl k)
        show Goes p e below _ (sF T12 m 150 #[iv p1, iv p2, iv p3, iv p4, iv p5, iv runs1, iv sat1, iv runs2, iv sat2, rv ob1, rv ob3, iv ((p5 >>> ((2 : Int32) &&& 31)) &&& (3 : Int32)), .unset, iv (1 : Int32), iv (1 : Int32), .unset] [])
        refine Goes.step ?_ (fun _ k => XS.aload X12.here hx rfl (hb hby at_150) rfl rfl k)
        show Goes p e below _ (sF T12 m 152 #[iv p1, iv p2, iv p3, iv p4, iv p5, iv runs1, iv sat1, iv runs2, iv sat2, rv ob1, rv ob3, iv ((p5 >>> ((2 : Int32) &&& 31)) &&& (3 : Int32)), .unset, iv (1 : Int32), iv (1 : Int32), .unset] [(.ref ob3)])
        refine Goes.step ?_ (fun _ k => XS.aload X12.here hx rfl (hb hby at_152) rfl rfl k)
        show Goes p e below _ (sF T12 m 154 #[iv p1, iv p2, iv p3, iv p4, iv p5, iv runs1, iv sat1, iv runs2, iv sat2, rv ob1, rv ob3, iv ((p5 >>> ((2 : Int32) &&& 31)) &&& (3 : Int32)), .unset, iv (1 : Int32), iv (1 : Int32), .unset] [(.ref ob1), (.ref ob3)])
        obtain ⟨cq14, kq14, q14a, q14b, q14c⟩ := isOf hZ e12 E_ob3_9
        obtain ⟨_, _, ⟨T14, L14, k14, n14⟩, -, X14, ⟨Lc14, hQ14, l14, y14, z14⟩, st14⟩ := X12.virtualBack hx (y := (⟨"com/example/opicina/opicina/semantics/Estimate", "equals", "(Ljava/lang/Object;)Z"⟩ : MethodName)) (z := (⟨"com/example/opicina/opicina/semantics/Estimate", "equals", "(Ljava/lang/Object;)Z"⟩ : MethodName)) hown (mvT hZ (hw _ (List.mem_of_getElem? (i := 15) rfl))) (mvT hZ (hw _ (List.mem_of_getElem? (i := 16) rfl))) (notFace_of_selects (args := #[]) (mvT hZ (hw _ (List.mem_of_getElem? (i := 18) rfl)))) (mvT hZ (hw _ (List.mem_of_getElem? (i := 18) rfl))) (mvT hZ (hw _ (List.mem_of_getElem? (i := 17) rfl))) (by decide) (backOf (W := 0) (rmEq l Z a0 hw [] ob3 ob1 sat2 runs2 sat1 runs1 1 T5.heap n0 Zs5 E_ob1_13 Gs5 Gr5 F_ob1_satisfied_10 F_ob1_runs_11 (by unfold eqV; rw [if_pos hc124_7.symm, if_pos hc131_8.symm])) hZ (hw _ (List.mem_of_getElem? (i := 19) rfl)) (hw _ (List.mem_of_getElem? (i := 4) rfl)) (by decide) (by decide)) q14a q14c (g := (mkF m 154 #[iv p1, iv p2, iv p3, iv p4, iv p5, iv runs1, iv sat1, iv runs2, iv sat2, rv ob1, rv ob3, iv ((p5 >>> ((2 : Int32) &&& 31)) &&& (3 : Int32)), .unset, iv (1 : Int32), iv (1 : Int32), .unset] [(.ref ob1), (.ref ob3)])) rfl (by rw [hml]; rfl) (Steps.refl _) (argsL := [(.ref ob1)]) (rest := []) (lenOf pd__28Ljava_2flang_2fObject_3b_29Z rfl) rfl (by show 2 * 0 + _ ≤ _; exact Nat.le_of_eq rfl) (hb hby at_154) (fun _ _ => ⟨rfl, e12, (by decide : 0 + 1 + 1 + 0 ≤ _), (by decide : 0 + 2 + 2 + 0 ≤ _)⟩)
        dsimp only [Pt.U, Pt.locs, Pt.cells, Pt.slots] at X14 l14 y14 z14 st14 hQ14
        subst l14 y14 z14
        obtain ⟨rfl, N14q, e14⟩ := hQ14
        have N14 := Fr.app N12 N14q
        refine Goes.step ?_ (fun _ k => st14.trans k)
        show Goes p e below _ (sF T14 m 157 #[iv p1, iv p2, iv p3, iv p4, iv p5, iv runs1, iv sat1, iv runs2, iv sat2, rv ob1, rv ob3, iv ((p5 >>> ((2 : Int32) &&& 31)) &&& (3 : Int32)), .unset, iv (1 : Int32), iv (1 : Int32), .unset] [(.int (1 : Int32))])
        refine Goes.step ?_ (fun _ k => XS.istore X14.here hx rfl (hb hby at_157) rfl (l' := #[iv p1, iv p2, iv p3, iv p4, iv p5, iv runs1, iv sat1, iv runs2, iv sat2, rv ob1, rv ob3, iv ((p5 >>> ((2 : Int32) &&& 31)) &&& (3 : Int32)), .unset, iv (1 : Int32), iv (1 : Int32), iv (1 : Int32)]) rfl k)
        show Goes p e below _ (sF T14 m 159 #[iv p1, iv p2, iv p3, iv p4, iv p5, iv runs1, iv sat1, iv runs2, iv sat2, rv ob1, rv ob3, iv ((p5 >>> ((2 : Int32) &&& 31)) &&& (3 : Int32)), .unset, iv (1 : Int32), iv (1 : Int32), iv (1 : Int32)] [])
        refine Goes.step ?_ (fun _ k => XS.iload X14.here hx rfl (hb hby at_159) rfl  k)
        show Goes p e below _ (sF T14 m 161 #[iv p1, iv p2, iv p3, iv p4, iv p5, iv runs1, iv sat1, iv runs2, iv sat2, rv ob1, rv ob3, iv ((p5 >>> ((2 : Int32) &&& 31)) &&& (3 : Int32)), .unset, iv (1 : Int32), iv (1 : Int32), iv (1 : Int32)] [(.int (1 : Int32))])
        refine Goes.step ?_ (fun _ k => XS.iload X14.here hx rfl (hb hby at_161) rfl  k)
        show Goes p e below _ (sF T14 m 163 #[iv p1, iv p2, iv p3, iv p4, iv p5, iv runs1, iv sat1, iv runs2, iv sat2, rv ob1, rv ob3, iv ((p5 >>> ((2 : Int32) &&& 31)) &&& (3 : Int32)), .unset, iv (1 : Int32), iv (1 : Int32), iv (1 : Int32)] [(.int (1 : Int32)), (.int (1 : Int32))])
        refine Goes.step ?_ (fun _ k => XS.icmpNo X14.here hx rfl (hb hby at_163) rfl (teq (by decide : (1 : Int32) = (1 : Int32))).2 k)
        show Goes p e below _ (sF T14 m 166 #[iv p1, iv p2, iv p3, iv p4, iv p5, iv runs1, iv sat1, iv runs2, iv sat2, rv ob1, rv ob3, iv ((p5 >>> ((2 : Int32) &&& 31)) &&& (3 : Int32)), .unset, iv (1 : Int32), iv (1 : Int32), iv (1 : Int32)] [])
        refine Goes.step ?_ (fun _ k => XS.iload X14.here hx rfl (hb hby at_166) rfl  k)
        show Goes p e below _ (sF T14 m 168 #[iv p1, iv p2, iv p3, iv p4, iv p5, iv runs1, iv sat1, iv runs2, iv sat2, rv ob1, rv ob3, iv ((p5 >>> ((2 : Int32) &&& 31)) &&& (3 : Int32)), .unset, iv (1 : Int32), iv (1 : Int32), iv (1 : Int32)] [(.int (1 : Int32))])
        refine Goes.step ?_ (fun _ k => XS.iload X14.here hx rfl (hb hby at_168) rfl  k)
        show Goes p e below _ (sF T14 m 170 #[iv p1, iv p2, iv p3, iv p4, iv p5, iv runs1, iv sat1, iv runs2, iv sat2, rv ob1, rv ob3, iv ((p5 >>> ((2 : Int32) &&& 31)) &&& (3 : Int32)), .unset, iv (1 : Int32), iv (1 : Int32), iv (1 : Int32)] [(.int (1 : Int32)), (.int (1 : Int32))])
        refine Goes.step ?_ (fun _ k => XS.icmpNo X14.here hx rfl (hb hby at_170) rfl (teq (by decide : (1 : Int32) = (1 : Int32))).2 k)
        show Goes p e below _ (sF T14 m 173 #[iv p1, iv p2, iv p3, iv p4, iv p5, iv runs1, iv sat1, iv runs2, iv sat2, rv ob1, rv ob3, iv ((p5 >>> ((2 : Int32) &&& 31)) &&& (3 : Int32)), .unset, iv (1 : Int32), iv (1 : Int32), iv (1 : Int32)] [])
        refine Goes.step ?_ (fun _ k => XS.iconst X14.here hx rfl (hb hby at_173) k)
        show Goes p e below _ (sF T14 m 174 #[iv p1, iv p2, iv p3, iv p4, iv p5, iv runs1, iv sat1, iv runs2, iv sat2, rv ob1, rv ob3, iv ((p5 >>> ((2 : Int32) &&& 31)) &&& (3 : Int32)), .unset, iv (1 : Int32), iv (1 : Int32), iv (1 : Int32)] [(.int (1 : Int32))])
        refine Goes.step ?_ (fun _ k => XS.goto X14.here hx rfl (pc0 := 174) (pc' := 178) rfl (hb hby at_174) (by decide) (by decide) k)
        show Goes p e below _ (sF T14 m 178 #[iv p1, iv p2, iv p3, iv p4, iv p5, iv runs1, iv sat1, iv runs2, iv sat2, rv ob1, rv ob3, iv ((p5 >>> ((2 : Int32) &&& 31)) &&& (3 : Int32)), .unset, iv (1 : Int32), iv (1 : Int32), iv (1 : Int32)] [(.int (1 : Int32))])
        refine Goes.step ?_ (fun _ k => XS.istore X14.here hx rfl (hb hby at_178) rfl (l' := #[iv p1, iv p2, iv p3, iv p4, iv p5, iv runs1, iv sat1, iv runs2, iv sat2, rv ob1, rv ob3, iv ((p5 >>> ((2 : Int32) &&& 31)) &&& (3 : Int32)), iv (1 : Int32), iv (1 : Int32), iv (1 : Int32), iv (1 : Int32)]) rfl k)
        show Goes p e below _ (sF T14 m 180 #[iv p1, iv p2, iv p3, iv p4, iv p5, iv runs1, iv sat1, iv runs2, iv sat2, rv ob1, rv ob3, iv ((p5 >>> ((2 : Int32) &&& 31)) &&& (3 : Int32)), iv (1 : Int32), iv (1 : Int32), iv (1 : Int32), iv (1 : Int32)] [])
        refine Goes.step ?_ (fun _ k => XS.goto X14.here hx rfl (pc0 := 180) (pc' := 250) rfl (hb hby at_180) (by decide) (by decide) k)
        show Goes p e below _ (sF T14 m 250 #[iv p1, iv p2, iv p3, iv p4, iv p5, iv runs1, iv sat1, iv runs2, iv sat2, rv ob1, rv ob3, iv ((p5 >>> ((2 : Int32) &&& 31)) &&& (3 : Int32)), iv (1 : Int32), iv (1 : Int32), iv (1 : Int32), iv (1 : Int32)] [])
        refine Goes.step ?_ (fun _ k => XS.iload X14.here hx rfl (hb hby at_250) rfl  k)
        show Goes p e below _ (sF T14 m 252 #[iv p1, iv p2, iv p3, iv p4, iv p5, iv runs1, iv sat1, iv runs2, iv sat2, rv ob1, rv ob3, iv ((p5 >>> ((2 : Int32) &&& 31)) &&& (3 : Int32)), iv (1 : Int32), iv (1 : Int32), iv (1 : Int32), iv (1 : Int32)] [(.int (1 : Int32))])
        refine own_out X14 hx hlk hret rfl (Or.inl ⟨rfl, by simp, _, rfl⟩) (hb hby at_252) ?_ (by decide) (by decide)
        show Q0 n0 _ T14.heap _
        rw [e14]
        exact ⟨rfl, N14⟩
      · refine Goes.step ?_ (fun _ k => XS.icmpYes X5.here hx rfl (pc0 := 131) (pc' := 138) rfl (hb hby at_131) rfl (feq hc131_8).2 (by decide) (by decide) k)
        show Goes p e below _ (sF T5 m 138 #[iv p1, iv p2, iv p3, iv p4, iv p5, iv runs1, iv sat1, iv runs2, iv sat2, rv ob1, rv ob3, iv ((p5 >>> ((2 : Int32) &&& 31)) &&& (3 : Int32)), .unset, .unset, .unset, .unset] [])
        refine Goes.step ?_ (fun _ k => XS.iconst X5.here hx rfl (hb hby at_138) k)
        show Goes p e below _ (sF T5 m 139 #[iv p1, iv p2, iv p3, iv p4, iv p5, iv runs1, iv sat1, iv runs2, iv sat2, rv ob1, rv ob3, iv ((p5 >>> ((2 : Int32) &&& 31)) &&& (3 : Int32)), .unset, .unset, .unset, .unset] [(.int (0 : Int32))])
        refine Goes.step ?_ (fun _ k => XS.istore X5.here hx rfl (hb hby at_139) rfl (l' := #[iv p1, iv p2, iv p3, iv p4, iv p5, iv runs1, iv sat1, iv runs2, iv sat2, rv ob1, rv ob3, iv ((p5 >>> ((2 : Int32) &&& 31)) &&& (3 : Int32)), .unset, iv (0 : Int32), .unset, .unset]) rfl k)
        show Goes p e below _ (sF T5 m 141 #[iv p1, iv p2, iv p3, iv p4, iv p5, iv runs1, iv sat1, iv runs2, iv sat2, rv ob1, rv ob3, iv ((p5 >>> ((2 : Int32) &&& 31)) &&& (3 : Int32)), .unset, iv (0 : Int32), .unset, .unset] [])
        refine Goes.step ?_ (fun _ k => XS.aload X5.here hx rfl (hb hby at_141) rfl rfl k)
        show Goes p e below _ (sF T5 m 143 #[iv p1, iv p2, iv p3, iv p4, iv p5, iv runs1, iv sat1, iv runs2, iv sat2, rv ob1, rv ob3, iv ((p5 >>> ((2 : Int32) &&& 31)) &&& (3 : Int32)), .unset, iv (0 : Int32), .unset, .unset] [(.ref ob1)])
        refine Goes.step ?_ (fun _ k => XS.aload X5.here hx rfl (hb hby at_143) rfl rfl k)
        show Goes p e below _ (sF T5 m 145 #[iv p1, iv p2, iv p3, iv p4, iv p5, iv runs1, iv sat1, iv runs2, iv sat2, rv ob1, rv ob3, iv ((p5 >>> ((2 : Int32) &&& 31)) &&& (3 : Int32)), .unset, iv (0 : Int32), .unset, .unset] [(.ref ob3), (.ref ob1)])
        have E_ob3_15 := (A3.keep K5)
        have F_ob1_satisfied_16 := ((Gs2.ext E3).keep K5 (ninS ne_ob1_ob3 nin0))
        have F_ob1_runs_17 := ((Gr2.ext E3).keep K5 (ninS ne_ob1_ob3 nin0))
        have E_ob1_19 := ((E_ob1_4.ext E3).keep K5)
        obtain ⟨cq18, kq18, q18a, q18b, q18c⟩ := isOf hZ rfl E_ob1_19
        obtain ⟨_, _, ⟨T18, L18, k18, n18⟩, -, X18, ⟨Lc18, hQ18, l18, y18, z18⟩, st18⟩ := X5.virtualBack hx (y := (⟨"com/example/opicina/opicina/semantics/Estimate", "equals", "(Ljava/lang/Object;)Z"⟩ : MethodName)) (z := (⟨"com/example/opicina/opicina/semantics/Estimate", "equals", "(Ljava/lang/Object;)Z"⟩ : MethodName)) hown (mvT hZ (hw _ (List.mem_of_getElem? (i := 15) rfl))) (mvT hZ (hw _ (List.mem_of_getElem? (i := 16) rfl))) (notFace_of_selects (args := #[]) (mvT hZ (hw _ (List.mem_of_getElem? (i := 18) rfl)))) (mvT hZ (hw _ (List.mem_of_getElem? (i := 18) rfl))) (mvT hZ (hw _ (List.mem_of_getElem? (i := 17) rfl))) (by decide) (backOf (W := 0) (rmEq l Z a0 hw [] ob1 ob3 sat1 runs1 sat2 runs2 0 T5.heap n0 Zs5 E_ob3_15 F_ob1_satisfied_16 F_ob1_runs_17 Gs5 Gr5 (by unfold eqV; rw [if_pos hc124_7, if_neg hc131_8])) hZ (hw _ (List.mem_of_getElem? (i := 19) rfl)) (hw _ (List.mem_of_getElem? (i := 4) rfl)) (by decide) (by decide)) q18a q18c (g := (mkF m 145 #[iv p1, iv p2, iv p3, iv p4, iv p5, iv runs1, iv sat1, iv runs2, iv sat2, rv ob1, rv ob3, iv ((p5 >>> ((2 : Int32) &&& 31)) &&& (3 : Int32)), .unset, iv (0 : Int32), .unset, .unset] [(.ref ob3), (.ref ob1)])) rfl (by rw [hml]; rfl) (Steps.refl _) (argsL := [(.ref ob3)]) (rest := []) (lenOf pd__28Ljava_2flang_2fObject_3b_29Z rfl) rfl (by show 2 * 0 + _ ≤ _; exact Nat.le_of_eq rfl) (hb hby at_145) (fun _ _ => ⟨rfl, rfl, (by decide : 0 + 1 + 1 + 0 ≤ _), (by decide : 0 + 2 + 2 + 0 ≤ _)⟩)
        dsimp only [Pt.U, Pt.locs, Pt.cells, Pt.slots] at X18 l18 y18 z18 st18 hQ18
        subst l18 y18 z18
        obtain ⟨rfl, N18q, e18⟩ := hQ18
        have N18 := Fr.app N5 N18q
        refine Goes.step ?_ (fun _ k => st18.trans k)
        show Goes p e below _ (sF T18 m 148 #[iv p1, iv p2, iv p3, iv p4, iv p5, iv runs1, iv sat1, iv runs2, iv sat2, rv ob1, rv ob3, iv ((p5 >>> ((2 : Int32) &&& 31)) &&& (3 : Int32)), .unset, iv (0 : Int32), .unset, .unset] [(.int (0 : Int32))])
        refine Goes.step ?_ (fun _ k => XS.istore X18.here hx rfl (hb hby at_148) rfl (l' := #[iv p1, iv p2, iv p3, iv p4, iv p5, iv runs1, iv sat1, iv runs2, iv sat2, rv ob1, rv ob3, iv ((p5 >>> ((2 : Int32) &&& 31)) &&& (3 : Int32)), .unset, iv (0 : Int32), iv (0 : Int32), .unset]) rfl k)
        show Goes p e below _ (sF T18 m 150 #[iv p1, iv p2, iv p3, iv p4, iv p5, iv runs1, iv sat1, iv runs2, iv sat2, rv ob1, rv ob3, iv ((p5 >>> ((2 : Int32) &&& 31)) &&& (3 : Int32)), .unset, iv (0 : Int32), iv (0 : Int32), .unset] [])
        refine Goes.step ?_ (fun _ k => XS.aload X18.here hx rfl (hb hby at_150) rfl rfl k)
        show Goes p e below _ (sF T18 m 152 #[iv p1, iv p2, iv p3, iv p4, iv p5, iv runs1, iv sat1, iv runs2, iv sat2, rv ob1, rv ob3, iv ((p5 >>> ((2 : Int32) &&& 31)) &&& (3 : Int32)), .unset, iv (0 : Int32), iv (0 : Int32), .unset] [(.ref ob3)])
        refine Goes.step ?_ (fun _ k => XS.aload X18.here hx rfl (hb hby at_152) rfl rfl k)
        show Goes p e below _ (sF T18 m 154 #[iv p1, iv p2, iv p3, iv p4, iv p5, iv runs1, iv sat1, iv runs2, iv sat2, rv ob1, rv ob3, iv ((p5 >>> ((2 : Int32) &&& 31)) &&& (3 : Int32)), .unset, iv (0 : Int32), iv (0 : Int32), .unset] [(.ref ob1), (.ref ob3)])
        obtain ⟨cq20, kq20, q20a, q20b, q20c⟩ := isOf hZ e18 E_ob3_15
        obtain ⟨_, _, ⟨T20, L20, k20, n20⟩, -, X20, ⟨Lc20, hQ20, l20, y20, z20⟩, st20⟩ := X18.virtualBack hx (y := (⟨"com/example/opicina/opicina/semantics/Estimate", "equals", "(Ljava/lang/Object;)Z"⟩ : MethodName)) (z := (⟨"com/example/opicina/opicina/semantics/Estimate", "equals", "(Ljava/lang/Object;)Z"⟩ : MethodName)) hown (mvT hZ (hw _ (List.mem_of_getElem? (i := 15) rfl))) (mvT hZ (hw _ (List.mem_of_getElem? (i := 16) rfl))) (notFace_of_selects (args := #[]) (mvT hZ (hw _ (List.mem_of_getElem? (i := 18) rfl)))) (mvT hZ (hw _ (List.mem_of_getElem? (i := 18) rfl))) (mvT hZ (hw _ (List.mem_of_getElem? (i := 17) rfl))) (by decide) (backOf (W := 0) (rmEq l Z a0 hw [] ob3 ob1 sat2 runs2 sat1 runs1 0 T5.heap n0 Zs5 E_ob1_19 Gs5 Gr5 F_ob1_satisfied_16 F_ob1_runs_17 (by unfold eqV; rw [if_pos hc124_7.symm, if_neg (fun q => hc131_8 q.symm)])) hZ (hw _ (List.mem_of_getElem? (i := 19) rfl)) (hw _ (List.mem_of_getElem? (i := 4) rfl)) (by decide) (by decide)) q20a q20c (g := (mkF m 154 #[iv p1, iv p2, iv p3, iv p4, iv p5, iv runs1, iv sat1, iv runs2, iv sat2, rv ob1, rv ob3, iv ((p5 >>> ((2 : Int32) &&& 31)) &&& (3 : Int32)), .unset, iv (0 : Int32), iv (0 : Int32), .unset] [(.ref ob1), (.ref ob3)])) rfl (by rw [hml]; rfl) (Steps.refl _) (argsL := [(.ref ob1)]) (rest := []) (lenOf pd__28Ljava_2flang_2fObject_3b_29Z rfl) rfl (by show 2 * 0 + _ ≤ _; exact Nat.le_of_eq rfl) (hb hby at_154) (fun _ _ => ⟨rfl, e18, (by decide : 0 + 1 + 1 + 0 ≤ _), (by decide : 0 + 2 + 2 + 0 ≤ _)⟩)
        dsimp only [Pt.U, Pt.locs, Pt.cells, Pt.slots] at X20 l20 y20 z20 st20 hQ20
        subst l20 y20 z20
        obtain ⟨rfl, N20q, e20⟩ := hQ20
        have N20 := Fr.app N18 N20q
        refine Goes.step ?_ (fun _ k => st20.trans k)
        show Goes p e below _ (sF T20 m 157 #[iv p1, iv p2, iv p3, iv p4, iv p5, iv runs1, iv sat1, iv runs2, iv sat2, rv ob1, rv ob3, iv ((p5 >>> ((2 : Int32) &&& 31)) &&& (3 : Int32)), .unset, iv (0 : Int32), iv (0 : Int32), .unset] [(.int (0 : Int32))])
        refine Goes.step ?_ (fun _ k => XS.istore X20.here hx rfl (hb hby at_157) rfl (l' := #[iv p1, iv p2, iv p3, iv p4, iv p5, iv runs1, iv sat1, iv runs2, iv sat2, rv ob1, rv ob3, iv ((p5 >>> ((2 : Int32) &&& 31)) &&& (3 : Int32)), .unset, iv (0 : Int32), iv (0 : Int32), iv (0 : Int32)]) rfl k)
        show Goes p e below _ (sF T20 m 159 #[iv p1, iv p2, iv p3, iv p4, iv p5, iv runs1, iv sat1, iv runs2, iv sat2, rv ob1, rv ob3, iv ((p5 >>> ((2 : Int32) &&& 31)) &&& (3 : Int32)), .unset, iv (0 : Int32), iv (0 : Int32), iv (0 : Int32)] [])
        refine Goes.step ?_ (fun _ k => XS.iload X20.here hx rfl (hb hby at_159) rfl  k)
        show Goes p e below _ (sF T20 m 161 #[iv p1, iv p2, iv p3, iv p4, iv p5, iv runs1, iv sat1, iv runs2, iv sat2, rv ob1, rv ob3, iv ((p5 >>> ((2 : Int32) &&& 31)) &&& (3 : Int32)), .unset, iv (0 : Int32), iv (0 : Int32), iv (0 : Int32)] [(.int (0 : Int32))])
        refine Goes.step ?_ (fun _ k => XS.iload X20.here hx rfl (hb hby at_161) rfl  k)
        show Goes p e below _ (sF T20 m 163 #[iv p1, iv p2, iv p3, iv p4, iv p5, iv runs1, iv sat1, iv runs2, iv sat2, rv ob1, rv ob3, iv ((p5 >>> ((2 : Int32) &&& 31)) &&& (3 : Int32)), .unset, iv (0 : Int32), iv (0 : Int32), iv (0 : Int32)] [(.int (0 : Int32)), (.int (0 : Int32))])
        refine Goes.step ?_ (fun _ k => XS.icmpNo X20.here hx rfl (hb hby at_163) rfl (teq (by decide : (0 : Int32) = (0 : Int32))).2 k)
        show Goes p e below _ (sF T20 m 166 #[iv p1, iv p2, iv p3, iv p4, iv p5, iv runs1, iv sat1, iv runs2, iv sat2, rv ob1, rv ob3, iv ((p5 >>> ((2 : Int32) &&& 31)) &&& (3 : Int32)), .unset, iv (0 : Int32), iv (0 : Int32), iv (0 : Int32)] [])
        refine Goes.step ?_ (fun _ k => XS.iload X20.here hx rfl (hb hby at_166) rfl  k)
        show Goes p e below _ (sF T20 m 168 #[iv p1, iv p2, iv p3, iv p4, iv p5, iv runs1, iv sat1, iv runs2, iv sat2, rv ob1, rv ob3, iv ((p5 >>> ((2 : Int32) &&& 31)) &&& (3 : Int32)), .unset, iv (0 : Int32), iv (0 : Int32), iv (0 : Int32)] [(.int (0 : Int32))])
        refine Goes.step ?_ (fun _ k => XS.iload X20.here hx rfl (hb hby at_168) rfl  k)
        show Goes p e below _ (sF T20 m 170 #[iv p1, iv p2, iv p3, iv p4, iv p5, iv runs1, iv sat1, iv runs2, iv sat2, rv ob1, rv ob3, iv ((p5 >>> ((2 : Int32) &&& 31)) &&& (3 : Int32)), .unset, iv (0 : Int32), iv (0 : Int32), iv (0 : Int32)] [(.int (0 : Int32)), (.int (0 : Int32))])
        refine Goes.step ?_ (fun _ k => XS.icmpNo X20.here hx rfl (hb hby at_170) rfl (teq (by decide : (0 : Int32) = (0 : Int32))).2 k)
        show Goes p e below _ (sF T20 m 173 #[iv p1, iv p2, iv p3, iv p4, iv p5, iv runs1, iv sat1, iv runs2, iv sat2, rv ob1, rv ob3, iv ((p5 >>> ((2 : Int32) &&& 31)) &&& (3 : Int32)), .unset, iv (0 : Int32), iv (0 : Int32), iv (0 : Int32)] [])
        refine Goes.step ?_ (fun _ k => XS.iconst X20.here hx rfl (hb hby at_173) k)
        show Goes p e below _ (sF T20 m 174 #[iv p1, iv p2, iv p3, iv p4, iv p5, iv runs1, iv sat1, iv runs2, iv sat2, rv ob1, rv ob3, iv ((p5 >>> ((2 : Int32) &&& 31)) &&& (3 : Int32)), .unset, iv (0 : Int32), iv (0 : Int32), iv (0 : Int32)] [(.int (1 : Int32))])
        refine Goes.step ?_ (fun _ k => XS.goto X20.here hx rfl (pc0 := 174) (pc' := 178) rfl (hb hby at_174) (by decide) (by decide) k)
        show Goes p e below _ (sF T20 m 178 #[iv p1, iv p2, iv p3, iv p4, iv p5, iv runs1, iv sat1, iv runs2, iv sat2, rv ob1, rv ob3, iv ((p5 >>> ((2 : Int32) &&& 31)) &&& (3 : Int32)), .unset, iv (0 : Int32), iv (0 : Int32), iv (0 : Int32)] [(.int (1 : Int32))])
        refine Goes.step ?_ (fun _ k => XS.istore X20.here hx rfl (hb hby at_178) rfl (l' := #[iv p1, iv p2, iv p3, iv p4, iv p5, iv runs1, iv sat1, iv runs2, iv sat2, rv ob1, rv ob3, iv ((p5 >>> ((2 : Int32) &&& 31)) &&& (3 : Int32)), iv (1 : Int32), iv (0 : Int32), iv (0 : Int32), iv (0 : Int32)]) rfl k)
        show Goes p e below _ (sF T20 m 180 #[iv p1, iv p2, iv p3, iv p4, iv p5, iv runs1, iv sat1, iv runs2, iv sat2, rv ob1, rv ob3, iv ((p5 >>> ((2 : Int32) &&& 31)) &&& (3 : Int32)), iv (1 : Int32), iv (0 : Int32), iv (0 : Int32), iv (0 : Int32)] [])
        refine Goes.step ?_ (fun _ k => XS.goto X20.here hx rfl (pc0 := 180) (pc' := 250) rfl (hb hby at_180) (by decide) (by decide) k)
        show Goes p e below _ (sF T20 m 250 #[iv p1, iv p2, iv p3, iv p4, iv p5, iv runs1, iv sat1, iv runs2, iv sat2, rv ob1, rv ob3, iv ((p5 >>> ((2 : Int32) &&& 31)) &&& (3 : Int32)), iv (1 : Int32), iv (0 : Int32), iv (0 : Int32), iv (0 : Int32)] [])
        refine Goes.step ?_ (fun _ k => XS.iload X20.here hx rfl (hb hby at_250) rfl  k)
        show Goes p e below _ (sF T20 m 252 #[iv p1, iv p2, iv p3, iv p4, iv p5, iv runs1, iv sat1, iv runs2, iv sat2, rv ob1, rv ob3, iv ((p5 >>> ((2 : Int32) &&& 31)) &&& (3 : Int32)), iv (1 : Int32), iv (0 : Int32), iv (0 : Int32), iv (0 : Int32)] [(.int (1 : Int32))])
        refine own_out X20 hx hlk hret rfl (Or.inl ⟨rfl, by simp, _, rfl⟩) (hb hby at_252) ?_ (by decide) (by decide)
        show Q0 n0 _ T20.heap _
        rw [e20]
        exact ⟨rfl, N20⟩
    · refine Goes.step ?_ (fun _ k => XS.icmpYes X5.here hx rfl (pc0 := 124) (pc' := 138) rfl (hb hby at_124) rfl (feq hc124_7).2 (by decide) (by decide) k)
      show Goes p e below _ (sF T5 m 138 #[iv p1, iv p2, iv p3, iv p4, iv p5, iv runs1, iv sat1, iv runs2, iv sat2, rv ob1, rv ob3, iv ((p5 >>> ((2 : Int32) &&& 31)) &&& (3 : Int32)), .unset, .unset, .unset, .unset] [])
      refine Goes.step ?_ (fun _ k => XS.iconst X5.here hx rfl (hb hby at_138) k)
      show Goes p e below _ (sF T5 m 139 #[iv p1, iv p2, iv p3, iv p4, iv p5, iv runs1, iv sat1, iv runs2, iv sat2, rv ob1, rv ob3, iv ((p5 >>> ((2 : Int32) &&& 31)) &&& (3 : Int32)), .unset, .unset, .unset, .unset] [(.int (0 : Int32))])
      refine Goes.step ?_ (fun _ k => XS.istore X5.here hx rfl (hb hby at_139) rfl (l' := #[iv p1, iv p2, iv p3, iv p4, iv p5, iv runs1, iv sat1, iv runs2, iv sat2, rv ob1, rv ob3, iv ((p5 >>> ((2 : Int32) &&& 31)) &&& (3 : Int32)), .unset, iv (0 : Int32), .unset, .unset]) rfl k)
      show Goes p e below _ (sF T5 m 141 #[iv p1, iv p2, iv p3, iv p4, iv p5, iv runs1, iv sat1, iv runs2, iv sat2, rv ob1, rv ob3, iv ((p5 >>> ((2 : Int32) &&& 31)) &&& (3 : Int32)), .unset, iv (0 : Int32), .unset, .unset] [])
      refine Goes.step ?_ (fun _ k => XS.aload X5.here hx rfl (hb hby at_141) rfl rfl k)
      show Goes p e below _ (sF T5 m 143 #[iv p1, iv p2, iv p3, iv p4, iv p5, iv runs1, iv sat1, iv runs2, iv sat2, rv ob1, rv ob3, iv ((p5 >>> ((2 : Int32) &&& 31)) &&& (3 : Int32)), .unset, iv (0 : Int32), .unset, .unset] [(.ref ob1)])
      refine Goes.step ?_ (fun _ k => XS.aload X5.here hx rfl (hb hby at_143) rfl rfl k)
      show Goes p e below _ (sF T5 m 145 #[iv p1, iv p2, iv p3, iv p4, iv p5, iv runs1, iv sat1, iv runs2, iv sat2, rv ob1, rv ob3, iv ((p5 >>> ((2 : Int32) &&& 31)) &&& (3 : Int32)), .unset, iv (0 : Int32), .unset, .unset] [(.ref ob3), (.ref ob1)])
      have E_ob3_21 := (A3.keep K5)
      have F_ob1_satisfied_22 := ((Gs2.ext E3).keep K5 (ninS ne_ob1_ob3 nin0))
      have F_ob1_runs_23 := ((Gr2.ext E3).keep K5 (ninS ne_ob1_ob3 nin0))
      have E_ob1_25 := ((E_ob1_4.ext E3).keep K5)
      obtain ⟨cq24, kq24, q24a, q24b, q24c⟩ := isOf hZ rfl E_ob1_25
      obtain ⟨_, _, ⟨T24, L24, k24, n24⟩, -, X24, ⟨Lc24, hQ24, l24, y24, z24⟩, st24⟩ := X5.virtualBack hx (y := (⟨"com/example/opicina/opicina/semantics/Estimate", "equals", "(Ljava/lang/Object;)Z"⟩ : MethodName)) (z := (⟨"com/example/opicina/opicina/semantics/Estimate", "equals", "(Ljava/lang/Object;)Z"⟩ : MethodName)) hown (mvT hZ (hw _ (List.mem_of_getElem? (i := 15) rfl))) (mvT hZ (hw _ (List.mem_of_getElem? (i := 16) rfl))) (notFace_of_selects (args := #[]) (mvT hZ (hw _ (List.mem_of_getElem? (i := 18) rfl)))) (mvT hZ (hw _ (List.mem_of_getElem? (i := 18) rfl))) (mvT hZ (hw _ (List.mem_of_getElem? (i := 17) rfl))) (by decide) (backOf (W := 0) (rmEq l Z a0 hw [] ob1 ob3 sat1 runs1 sat2 runs2 0 T5.heap n0 Zs5 E_ob3_21 F_ob1_satisfied_22 F_ob1_runs_23 Gs5 Gr5 (by unfold eqV; rw [if_neg hc124_7])) hZ (hw _ (List.mem_of_getElem? (i := 19) rfl)) (hw _ (List.mem_of_getElem? (i := 4) rfl)) (by decide) (by decide)) q24a q24c (g := (mkF m 145 #[iv p1, iv p2, iv p3, iv p4, iv p5, iv runs1, iv sat1, iv runs2, iv sat2, rv ob1, rv ob3, iv ((p5 >>> ((2 : Int32) &&& 31)) &&& (3 : Int32)), .unset, iv (0 : Int32), .unset, .unset] [(.ref ob3), (.ref ob1)])) rfl (by rw [hml]; rfl) (Steps.refl _) (argsL := [(.ref ob3)]) (rest := []) (lenOf pd__28Ljava_2flang_2fObject_3b_29Z rfl) rfl (by show 2 * 0 + _ ≤ _; exact Nat.le_of_eq rfl) (hb hby at_145) (fun _ _ => ⟨rfl, rfl, (by decide : 0 + 1 + 1 + 0 ≤ _), (by decide : 0 + 2 + 2 + 0 ≤ _)⟩)
      dsimp only [Pt.U, Pt.locs, Pt.cells, Pt.slots] at X24 l24 y24 z24 st24 hQ24
      subst l24 y24 z24
      obtain ⟨rfl, N24q, e24⟩ := hQ24
      have N24 := Fr.app N5 N24q
      refine Goes.step ?_ (fun _ k => st24.trans k)
      show Goes p e below _ (sF T24 m 148 #[iv p1, iv p2, iv p3, iv p4, iv p5, iv runs1, iv sat1, iv runs2, iv sat2, rv ob1, rv ob3, iv ((p5 >>> ((2 : Int32) &&& 31)) &&& (3 : Int32)), .unset, iv (0 : Int32), .unset, .unset] [(.int (0 : Int32))])
      refine Goes.step ?_ (fun _ k => XS.istore X24.here hx rfl (hb hby at_148) rfl (l' := #[iv p1, iv p2, iv p3, iv p4, iv p5, iv runs1, iv sat1, iv runs2, iv sat2, rv ob1, rv ob3, iv ((p5 >>> ((2 : Int32) &&& 31)) &&& (3 : Int32)), .unset, iv (0 : Int32), iv (0 : Int32), .unset]) rfl k)
      show Goes p e below _ (sF T24 m 150 #[iv p1, iv p2, iv p3, iv p4, iv p5, iv runs1, iv sat1, iv runs2, iv sat2, rv ob1, rv ob3, iv ((p5 >>> ((2 : Int32) &&& 31)) &&& (3 : Int32)), .unset, iv (0 : Int32), iv (0 : Int32), .unset] [])
      refine Goes.step ?_ (fun _ k => XS.aload X24.here hx rfl (hb hby at_150) rfl rfl k)
      show Goes p e below _ (sF T24 m 152 #[iv p1, iv p2, iv p3, iv p4, iv p5, iv runs1, iv sat1, iv runs2, iv sat2, rv ob1, rv ob3, iv ((p5 >>> ((2 : Int32) &&& 31)) &&& (3 : Int32)), .unset, iv (0 : Int32), iv (0 : Int32), .unset] [(.ref ob3)])
      refine Goes.step ?_ (fun _ k => XS.aload X24.here hx rfl (hb hby at_152) rfl rfl k)
      show Goes p e below _ (sF T24 m 154 #[iv p1, iv p2, iv p3, iv p4, iv p5, iv runs1, iv sat1, iv runs2, iv sat2, rv ob1, rv ob3, iv ((p5 >>> ((2 : Int32) &&& 31)) &&& (3 : Int32)), .unset, iv (0 : Int32), iv (0 : Int32), .unset] [(.ref ob1), (.ref ob3)])
      obtain ⟨cq26, kq26, q26a, q26b, q26c⟩ := isOf hZ e24 E_ob3_21
      obtain ⟨_, _, ⟨T26, L26, k26, n26⟩, -, X26, ⟨Lc26, hQ26, l26, y26, z26⟩, st26⟩ := X24.virtualBack hx (y := (⟨"com/example/opicina/opicina/semantics/Estimate", "equals", "(Ljava/lang/Object;)Z"⟩ : MethodName)) (z := (⟨"com/example/opicina/opicina/semantics/Estimate", "equals", "(Ljava/lang/Object;)Z"⟩ : MethodName)) hown (mvT hZ (hw _ (List.mem_of_getElem? (i := 15) rfl))) (mvT hZ (hw _ (List.mem_of_getElem? (i := 16) rfl))) (notFace_of_selects (args := #[]) (mvT hZ (hw _ (List.mem_of_getElem? (i := 18) rfl)))) (mvT hZ (hw _ (List.mem_of_getElem? (i := 18) rfl))) (mvT hZ (hw _ (List.mem_of_getElem? (i := 17) rfl))) (by decide) (backOf (W := 0) (rmEq l Z a0 hw [] ob3 ob1 sat2 runs2 sat1 runs1 0 T5.heap n0 Zs5 E_ob1_25 Gs5 Gr5 F_ob1_satisfied_22 F_ob1_runs_23 (by unfold eqV; rw [if_neg (fun q => hc124_7 q.symm)])) hZ (hw _ (List.mem_of_getElem? (i := 19) rfl)) (hw _ (List.mem_of_getElem? (i := 4) rfl)) (by decide) (by decide)) q26a q26c (g := (mkF m 154 #[iv p1, iv p2, iv p3, iv p4, iv p5, iv runs1, iv sat1, iv runs2, iv sat2, rv ob1, rv ob3, iv ((p5 >>> ((2 : Int32) &&& 31)) &&& (3 : Int32)), .unset, iv (0 : Int32), iv (0 : Int32), .unset] [(.ref ob1), (.ref ob3)])) rfl (by rw [hml]; rfl) (Steps.refl _) (argsL := [(.ref ob1)]) (rest := []) (lenOf pd__28Ljava_2flang_2fObject_3b_29Z rfl) rfl (by show 2 * 0 + _ ≤ _; exact Nat.le_of_eq rfl) (hb hby at_154) (fun _ _ => ⟨rfl, e24, (by decide : 0 + 1 + 1 + 0 ≤ _), (by decide : 0 + 2 + 2 + 0 ≤ _)⟩)
      dsimp only [Pt.U, Pt.locs, Pt.cells, Pt.slots] at X26 l26 y26 z26 st26 hQ26
      subst l26 y26 z26
      obtain ⟨rfl, N26q, e26⟩ := hQ26
      have N26 := Fr.app N24 N26q
      refine Goes.step ?_ (fun _ k => st26.trans k)
      show Goes p e below _ (sF T26 m 157 #[iv p1, iv p2, iv p3, iv p4, iv p5, iv runs1, iv sat1, iv runs2, iv sat2, rv ob1, rv ob3, iv ((p5 >>> ((2 : Int32) &&& 31)) &&& (3 : Int32)), .unset, iv (0 : Int32), iv (0 : Int32), .unset] [(.int (0 : Int32))])
      refine Goes.step ?_ (fun _ k => XS.istore X26.here hx rfl (hb hby at_157) rfl (l' := #[iv p1, iv p2, iv p3, iv p4, iv p5, iv runs1, iv sat1, iv runs2, iv sat2, rv ob1, rv ob3, iv ((p5 >>> ((2 : Int32) &&& 31)) &&& (3 : Int32)), .unset, iv (0 : Int32), iv (0 : Int32), iv (0 : Int32)]) rfl k)
      show Goes p e below _ (sF T26 m 159 #[iv p1, iv p2, iv p3, iv p4, iv p5, iv runs1, iv sat1, iv runs2, iv sat2, rv ob1, rv ob3, iv ((p5 >>> ((2 : Int32) &&& 31)) &&& (3 : Int32)), .unset, iv (0 : Int32), iv (0 : Int32), iv (0 : Int32)] [])
      refine Goes.step ?_ (fun _ k => XS.iload X26.here hx rfl (hb hby at_159) rfl  k)
      show Goes p e below _ (sF T26 m 161 #[iv p1, iv p2, iv p3, iv p4, iv p5, iv runs1, iv sat1, iv runs2, iv sat2, rv ob1, rv ob3, iv ((p5 >>> ((2 : Int32) &&& 31)) &&& (3 : Int32)), .unset, iv (0 : Int32), iv (0 : Int32), iv (0 : Int32)] [(.int (0 : Int32))])
      refine Goes.step ?_ (fun _ k => XS.iload X26.here hx rfl (hb hby at_161) rfl  k)
      show Goes p e below _ (sF T26 m 163 #[iv p1, iv p2, iv p3, iv p4, iv p5, iv runs1, iv sat1, iv runs2, iv sat2, rv ob1, rv ob3, iv ((p5 >>> ((2 : Int32) &&& 31)) &&& (3 : Int32)), .unset, iv (0 : Int32), iv (0 : Int32), iv (0 : Int32)] [(.int (0 : Int32)), (.int (0 : Int32))])
      refine Goes.step ?_ (fun _ k => XS.icmpNo X26.here hx rfl (hb hby at_163) rfl (teq (by decide : (0 : Int32) = (0 : Int32))).2 k)
      show Goes p e below _ (sF T26 m 166 #[iv p1, iv p2, iv p3, iv p4, iv p5, iv runs1, iv sat1, iv runs2, iv sat2, rv ob1, rv ob3, iv ((p5 >>> ((2 : Int32) &&& 31)) &&& (3 : Int32)), .unset, iv (0 : Int32), iv (0 : Int32), iv (0 : Int32)] [])
      refine Goes.step ?_ (fun _ k => XS.iload X26.here hx rfl (hb hby at_166) rfl  k)
      show Goes p e below _ (sF T26 m 168 #[iv p1, iv p2, iv p3, iv p4, iv p5, iv runs1, iv sat1, iv runs2, iv sat2, rv ob1, rv ob3, iv ((p5 >>> ((2 : Int32) &&& 31)) &&& (3 : Int32)), .unset, iv (0 : Int32), iv (0 : Int32), iv (0 : Int32)] [(.int (0 : Int32))])
      refine Goes.step ?_ (fun _ k => XS.iload X26.here hx rfl (hb hby at_168) rfl  k)
      show Goes p e below _ (sF T26 m 170 #[iv p1, iv p2, iv p3, iv p4, iv p5, iv runs1, iv sat1, iv runs2, iv sat2, rv ob1, rv ob3, iv ((p5 >>> ((2 : Int32) &&& 31)) &&& (3 : Int32)), .unset, iv (0 : Int32), iv (0 : Int32), iv (0 : Int32)] [(.int (0 : Int32)), (.int (0 : Int32))])
      refine Goes.step ?_ (fun _ k => XS.icmpNo X26.here hx rfl (hb hby at_170) rfl (teq (by decide : (0 : Int32) = (0 : Int32))).2 k)
      show Goes p e below _ (sF T26 m 173 #[iv p1, iv p2, iv p3, iv p4, iv p5, iv runs1, iv sat1, iv runs2, iv sat2, rv ob1, rv ob3, iv ((p5 >>> ((2 : Int32) &&& 31)) &&& (3 : Int32)), .unset, iv (0 : Int32), iv (0 : Int32), iv (0 : Int32)] [])
      refine Goes.step ?_ (fun _ k => XS.iconst X26.here hx rfl (hb hby at_173) k)
      show Goes p e below _ (sF T26 m 174 #[iv p1, iv p2, iv p3, iv p4, iv p5, iv runs1, iv sat1, iv runs2, iv sat2, rv ob1, rv ob3, iv ((p5 >>> ((2 : Int32) &&& 31)) &&& (3 : Int32)), .unset, iv (0 : Int32), iv (0 : Int32), iv (0 : Int32)] [(.int (1 : Int32))])
      refine Goes.step ?_ (fun _ k => XS.goto X26.here hx rfl (pc0 := 174) (pc' := 178) rfl (hb hby at_174) (by decide) (by decide) k)
      show Goes p e below _ (sF T26 m 178 #[iv p1, iv p2, iv p3, iv p4, iv p5, iv runs1, iv sat1, iv runs2, iv sat2, rv ob1, rv ob3, iv ((p5 >>> ((2 : Int32) &&& 31)) &&& (3 : Int32)), .unset, iv (0 : Int32), iv (0 : Int32), iv (0 : Int32)] [(.int (1 : Int32))])
      refine Goes.step ?_ (fun _ k => XS.istore X26.here hx rfl (hb hby at_178) rfl (l' := #[iv p1, iv p2, iv p3, iv p4, iv p5, iv runs1, iv sat1, iv runs2, iv sat2, rv ob1, rv ob3, iv ((p5 >>> ((2 : Int32) &&& 31)) &&& (3 : Int32)), iv (1 : Int32), iv (0 : Int32), iv (0 : Int32), iv (0 : Int32)]) rfl k)
      show Goes p e below _ (sF T26 m 180 #[iv p1, iv p2, iv p3, iv p4, iv p5, iv runs1, iv sat1, iv runs2, iv sat2, rv ob1, rv ob3, iv ((p5 >>> ((2 : Int32) &&& 31)) &&& (3 : Int32)), iv (1 : Int32), iv (0 : Int32), iv (0 : Int32), iv (0 : Int32)] [])
      refine Goes.step ?_ (fun _ k => XS.goto X26.here hx rfl (pc0 := 180) (pc' := 250) rfl (hb hby at_180) (by decide) (by decide) k)
      show Goes p e below _ (sF T26 m 250 #[iv p1, iv p2, iv p3, iv p4, iv p5, iv runs1, iv sat1, iv runs2, iv sat2, rv ob1, rv ob3, iv ((p5 >>> ((2 : Int32) &&& 31)) &&& (3 : Int32)), iv (1 : Int32), iv (0 : Int32), iv (0 : Int32), iv (0 : Int32)] [])
      refine Goes.step ?_ (fun _ k => XS.iload X26.here hx rfl (hb hby at_250) rfl  k)
      show Goes p e below _ (sF T26 m 252 #[iv p1, iv p2, iv p3, iv p4, iv p5, iv runs1, iv sat1, iv runs2, iv sat2, rv ob1, rv ob3, iv ((p5 >>> ((2 : Int32) &&& 31)) &&& (3 : Int32)), iv (1 : Int32), iv (0 : Int32), iv (0 : Int32), iv (0 : Int32)] [(.int (1 : Int32))])
      refine own_out X26 hx hlk hret rfl (Or.inl ⟨rfl, by simp, _, rfl⟩) (hb hby at_252) ?_ (by decide) (by decide)
      show Q0 n0 _ T26.heap _
      rw [e26]
      exact ⟨rfl, N26⟩
  · refine Goes.step ?_ (fun _ k => XS.ifYes X5.here hx rfl (pc0 := 117) (pc' := 183) rfl (hb hby at_117) rfl ((if0 _ _).trans (feq hc117_6).2) (by decide) (by decide) k)
    show Goes p e below _ (sF T5 m 183 #[iv p1, iv p2, iv p3, iv p4, iv p5, iv runs1, iv sat1, iv runs2, iv sat2, rv ob1, rv ob3, iv ((p5 >>> ((2 : Int32) &&& 31)) &&& (3 : Int32)), .unset, .unset, .unset, .unset] [])
    refine Goes.step ?_ (fun _ k => XS.iload X5.here hx rfl (hb hby at_183) rfl  k)
    show Goes p e below _ (sF T5 m 185 #[iv p1, iv p2, iv p3, iv p4, iv p5, iv runs1, iv sat1, iv runs2, iv sat2, rv ob1, rv ob3, iv ((p5 >>> ((2 : Int32) &&& 31)) &&& (3 : Int32)), .unset, .unset, .unset, .unset] [(.int ((p5 >>> ((2 : Int32) &&& 31)) &&& (3 : Int32)))])
    refine Goes.step ?_ (fun _ k => XS.iconst X5.here hx rfl (hb hby at_185) k)
    show Goes p e below _ (sF T5 m 186 #[iv p1, iv p2, iv p3, iv p4, iv p5, iv runs1, iv sat1, iv runs2, iv sat2, rv ob1, rv ob3, iv ((p5 >>> ((2 : Int32) &&& 31)) &&& (3 : Int32)), .unset, .unset, .unset, .unset] [(.int (1 : Int32)), (.int ((p5 >>> ((2 : Int32) &&& 31)) &&& (3 : Int32)))])
    by_cases hc186_27 : ((p5 >>> ((2 : Int32) &&& 31)) &&& (3 : Int32)) = (1 : Int32)
    · refine Goes.step ?_ (fun _ k => XS.icmpNo X5.here hx rfl (hb hby at_186) rfl (teq hc186_27).2 k)
      show Goes p e below _ (sF T5 m 189 #[iv p1, iv p2, iv p3, iv p4, iv p5, iv runs1, iv sat1, iv runs2, iv sat2, rv ob1, rv ob3, iv ((p5 >>> ((2 : Int32) &&& 31)) &&& (3 : Int32)), .unset, .unset, .unset, .unset] [])
      refine Goes.step ?_ (fun _ k => XS.aload X5.here hx rfl (hb hby at_189) rfl rfl k)
      show Goes p e below _ (sF T5 m 191 #[iv p1, iv p2, iv p3, iv p4, iv p5, iv runs1, iv sat1, iv runs2, iv sat2, rv ob1, rv ob3, iv ((p5 >>> ((2 : Int32) &&& 31)) &&& (3 : Int32)), .unset, .unset, .unset, .unset] [(.ref ob1)])
      refine Goes.step ?_ (fun _ k => XS.aconstNull X5.here hx rfl (hb hby at_191) k)
      show Goes p e below _ (sF T5 m 192 #[iv p1, iv p2, iv p3, iv p4, iv p5, iv runs1, iv sat1, iv runs2, iv sat2, rv ob1, rv ob3, iv ((p5 >>> ((2 : Int32) &&& 31)) &&& (3 : Int32)), .unset, .unset, .unset, .unset] [.null, (.ref ob1)])
      have E_ob1_29 := ((E_ob1_4.ext E3).keep K5)
      obtain ⟨cq28, kq28, q28a, q28b, q28c⟩ := isOf hZ rfl E_ob1_29
      obtain ⟨_, _, ⟨T28, L28, k28, n28⟩, -, X28, ⟨Lc28, hQ28, l28, y28, z28⟩, st28⟩ := X5.virtualBack hx (y := (⟨"com/example/opicina/opicina/semantics/Estimate", "equals", "(Ljava/lang/Object;)Z"⟩ : MethodName)) (z := (⟨"com/example/opicina/opicina/semantics/Estimate", "equals", "(Ljava/lang/Object;)Z"⟩ : MethodName)) hown (mvT hZ (hw _ (List.mem_of_getElem? (i := 15) rfl))) (mvT hZ (hw _ (List.mem_of_getElem? (i := 16) rfl))) (notFace_of_selects (args := #[]) (mvT hZ (hw _ (List.mem_of_getElem? (i := 18) rfl)))) (mvT hZ (hw _ (List.mem_of_getElem? (i := 18) rfl))) (mvT hZ (hw _ (List.mem_of_getElem? (i := 17) rfl))) (by decide) (backOf (W := 0) (rmEqN l Z a0 hw [] ob1  T5.heap n0 Zs5 ) hZ (hw _ (List.mem_of_getElem? (i := 19) rfl)) (hw _ (List.mem_of_getElem? (i := 4) rfl)) (by decide) (by decide)) q28a q28c (g := (mkF m 192 #[iv p1, iv p2, iv p3, iv p4, iv p5, iv runs1, iv sat1, iv runs2, iv sat2, rv ob1, rv ob3, iv ((p5 >>> ((2 : Int32) &&& 31)) &&& (3 : Int32)), .unset, .unset, .unset, .unset] [.null, (.ref ob1)])) rfl (by rw [hml]; rfl) (Steps.refl _) (argsL := [.null]) (rest := []) (lenOf pd__28Ljava_2flang_2fObject_3b_29Z rfl) rfl (by show 2 * 0 + _ ≤ _; exact Nat.le_of_eq rfl) (hb hby at_192) (fun _ _ => ⟨rfl, rfl, (by decide : 0 + 1 + 1 + 0 ≤ _), (by decide : 0 + 2 + 2 + 0 ≤ _)⟩)
      dsimp only [Pt.U, Pt.locs, Pt.cells, Pt.slots] at X28 l28 y28 z28 st28 hQ28
      subst l28 y28 z28
      obtain ⟨rfl, N28q, e28⟩ := hQ28
      have N28 := Fr.app N5 N28q
      refine Goes.step ?_ (fun _ k => st28.trans k)
      show Goes p e below _ (sF T28 m 195 #[iv p1, iv p2, iv p3, iv p4, iv p5, iv runs1, iv sat1, iv runs2, iv sat2, rv ob1, rv ob3, iv ((p5 >>> ((2 : Int32) &&& 31)) &&& (3 : Int32)), .unset, .unset, .unset, .unset] [(.int (0 : Int32))])
      refine Goes.step ?_ (fun _ k => XS.ifNo X28.here hx rfl (hb hby at_195) rfl ((if0 _ _).trans (teq (by decide : (0 : Int32) = (0 : Int32))).2) k)
      show Goes p e below _ (sF T28 m 198 #[iv p1, iv p2, iv p3, iv p4, iv p5, iv runs1, iv sat1, iv runs2, iv sat2, rv ob1, rv ob3, iv ((p5 >>> ((2 : Int32) &&& 31)) &&& (3 : Int32)), .unset, .unset, .unset, .unset] [])
      refine Goes.step ?_ (fun _ k => XS.iconst X28.here hx rfl (hb hby at_198) k)
      show Goes p e below _ (sF T28 m 199 #[iv p1, iv p2, iv p3, iv p4, iv p5, iv runs1, iv sat1, iv runs2, iv sat2, rv ob1, rv ob3, iv ((p5 >>> ((2 : Int32) &&& 31)) &&& (3 : Int32)), .unset, .unset, .unset, .unset] [(.int (1 : Int32))])
      refine Goes.step ?_ (fun _ k => XS.goto X28.here hx rfl (pc0 := 199) (pc' := 203) rfl (hb hby at_199) (by decide) (by decide) k)
      show Goes p e below _ (sF T28 m 203 #[iv p1, iv p2, iv p3, iv p4, iv p5, iv runs1, iv sat1, iv runs2, iv sat2, rv ob1, rv ob3, iv ((p5 >>> ((2 : Int32) &&& 31)) &&& (3 : Int32)), .unset, .unset, .unset, .unset] [(.int (1 : Int32))])
      refine Goes.step ?_ (fun _ k => XS.istore X28.here hx rfl (hb hby at_203) rfl (l' := #[iv p1, iv p2, iv p3, iv p4, iv p5, iv runs1, iv sat1, iv runs2, iv sat2, rv ob1, rv ob3, iv ((p5 >>> ((2 : Int32) &&& 31)) &&& (3 : Int32)), iv (1 : Int32), .unset, .unset, .unset]) rfl k)
      show Goes p e below _ (sF T28 m 205 #[iv p1, iv p2, iv p3, iv p4, iv p5, iv runs1, iv sat1, iv runs2, iv sat2, rv ob1, rv ob3, iv ((p5 >>> ((2 : Int32) &&& 31)) &&& (3 : Int32)), iv (1 : Int32), .unset, .unset, .unset] [])
      refine Goes.step ?_ (fun _ k => XS.goto X28.here hx rfl (pc0 := 205) (pc' := 250) rfl (hb hby at_205) (by decide) (by decide) k)
      show Goes p e below _ (sF T28 m 250 #[iv p1, iv p2, iv p3, iv p4, iv p5, iv runs1, iv sat1, iv runs2, iv sat2, rv ob1, rv ob3, iv ((p5 >>> ((2 : Int32) &&& 31)) &&& (3 : Int32)), iv (1 : Int32), .unset, .unset, .unset] [])
      refine Goes.step ?_ (fun _ k => XS.iload X28.here hx rfl (hb hby at_250) rfl  k)
      show Goes p e below _ (sF T28 m 252 #[iv p1, iv p2, iv p3, iv p4, iv p5, iv runs1, iv sat1, iv runs2, iv sat2, rv ob1, rv ob3, iv ((p5 >>> ((2 : Int32) &&& 31)) &&& (3 : Int32)), iv (1 : Int32), .unset, .unset, .unset] [(.int (1 : Int32))])
      refine own_out X28 hx hlk hret rfl (Or.inl ⟨rfl, by simp, _, rfl⟩) (hb hby at_252) ?_ (by decide) (by decide)
      show Q0 n0 _ T28.heap _
      rw [e28]
      exact ⟨rfl, N28⟩
    · refine Goes.step ?_ (fun _ k => XS.icmpYes X5.here hx rfl (pc0 := 186) (pc' := 208) rfl (hb hby at_186) rfl (feq hc186_27).2 (by decide) (by decide) k)
      show Goes p e below _ (sF T5 m 208 #[iv p1, iv p2, iv p3, iv p4, iv p5, iv runs1, iv sat1, iv runs2, iv sat2, rv ob1, rv ob3, iv ((p5 >>> ((2 : Int32) &&& 31)) &&& (3 : Int32)), .unset, .unset, .unset, .unset] [])
      refine Goes.step ?_ (fun _ k => XS.iload X5.here hx rfl (hb hby at_208) rfl  k)
      show Goes p e below _ (sF T5 m 210 #[iv p1, iv p2, iv p3, iv p4, iv p5, iv runs1, iv sat1, iv runs2, iv sat2, rv ob1, rv ob3, iv ((p5 >>> ((2 : Int32) &&& 31)) &&& (3 : Int32)), .unset, .unset, .unset, .unset] [(.int ((p5 >>> ((2 : Int32) &&& 31)) &&& (3 : Int32)))])
      refine Goes.step ?_ (fun _ k => XS.iconst X5.here hx rfl (hb hby at_210) k)
      show Goes p e below _ (sF T5 m 211 #[iv p1, iv p2, iv p3, iv p4, iv p5, iv runs1, iv sat1, iv runs2, iv sat2, rv ob1, rv ob3, iv ((p5 >>> ((2 : Int32) &&& 31)) &&& (3 : Int32)), .unset, .unset, .unset, .unset] [(.int (2 : Int32)), (.int ((p5 >>> ((2 : Int32) &&& 31)) &&& (3 : Int32)))])
      by_cases hc211_30 : ((p5 >>> ((2 : Int32) &&& 31)) &&& (3 : Int32)) = (2 : Int32)
      · refine Goes.step ?_ (fun _ k => XS.icmpNo X5.here hx rfl (hb hby at_211) rfl (teq hc211_30).2 k)
        show Goes p e below _ (sF T5 m 214 #[iv p1, iv p2, iv p3, iv p4, iv p5, iv runs1, iv sat1, iv runs2, iv sat2, rv ob1, rv ob3, iv ((p5 >>> ((2 : Int32) &&& 31)) &&& (3 : Int32)), .unset, .unset, .unset, .unset] [])
        refine Goes.step ?_ (fun _ k => XS.iload X5.here hx rfl (hb hby at_214) rfl  k)
        show Goes p e below _ (sF T5 m 216 #[iv p1, iv p2, iv p3, iv p4, iv p5, iv runs1, iv sat1, iv runs2, iv sat2, rv ob1, rv ob3, iv ((p5 >>> ((2 : Int32) &&& 31)) &&& (3 : Int32)), .unset, .unset, .unset, .unset] [(.int sat1)])
        have O_31 := ((((O0.ext E1).keep K2 (allS g_ob1 all0)).ext E3).keep K5 (allS g_ob3 all0))
        obtain ⟨_, _, ⟨T32, L32, k32, n32⟩, -, X32, ⟨Lc32, hQ32, l32, y32, z32⟩, st32⟩ := Jvm.LawKit.callS X5 hx (y := (⟨"java/lang/Integer", "valueOf", "(I)Ljava/lang/Integer;"⟩ : MethodName)) hown (mvT hZ (hw _ (List.mem_of_getElem? (i := 26) rfl))) (mvT hZ (hw _ (List.mem_of_getElem? (i := 27) rfl))) (mvT hZ (hw _ (List.mem_of_getElem? (i := 28) rfl))) (mvT hZ (hw _ (List.mem_of_getElem? (i := 29) rfl))) (by decide) (backOf (W := 0) (rmVal l Z a0 hw [] sat1 cc cl T5.heap n0 Zs5 O_31 S_high S_cache Ar_cc Sz_cc Hel) hZ (hw _ (List.mem_of_getElem? (i := 29) rfl)) (hw _ (List.mem_of_getElem? (i := 28) rfl)) (by decide) (by decide)) (g := (mkF m 216 #[iv p1, iv p2, iv p3, iv p4, iv p5, iv runs1, iv sat1, iv runs2, iv sat2, rv ob1, rv ob3, iv ((p5 >>> ((2 : Int32) &&& 31)) &&& (3 : Int32)), .unset, .unset, .unset, .unset] [(.int sat1)])) rfl (by rw [hml]; rfl) (argsL := [(.int sat1)]) (rest := []) (lenOf pd__28I_29Ljava_2flang_2fInteger_3b rfl) rfl (by show 2 * 0 + _ ≤ _; exact Nat.le_of_eq rfl) (hb hby at_216) (fun _ _ => ⟨rfl, rfl, (by decide : 0 + 1 + 1 + 1 ≤ _), (by decide : 0 + 2 + 2 + 1 ≤ _)⟩)
        dsimp only [Pt.U, Pt.locs, Pt.cells, Pt.slots] at X32 l32 y32 z32 st32 hQ32
        subst l32 y32 z32
        obtain ⟨r32, rfl, N32q, E32, A32⟩ := hQ32
        have N32 := Fr.app N5 N32q
        refine Goes.step ?_ st32
        have Zs32 : n0 ≤ T32.heap.size := Nat.le_trans Zs5 E32.1
        show Goes p e below _ (sF T32 m 219 #[iv p1, iv p2, iv p3, iv p4, iv p5, iv runs1, iv sat1, iv runs2, iv sat2, rv ob1, rv ob3, iv ((p5 >>> ((2 : Int32) &&& 31)) &&& (3 : Int32)), .unset, .unset, .unset, .unset] [(.ref r32)])
        refine Goes.step ?_ (fun _ k => XS.astore X32.here hx rfl (hb hby at_219) rfl rfl (l' := #[iv p1, iv p2, iv p3, iv p4, iv p5, iv runs1, iv sat1, iv runs2, iv sat2, rv ob1, rv ob3, iv ((p5 >>> ((2 : Int32) &&& 31)) &&& (3 : Int32)), .unset, rv r32, .unset, .unset]) rfl k)
        show Goes p e below _ (sF T32 m 221 #[iv p1, iv p2, iv p3, iv p4, iv p5, iv runs1, iv sat1, iv runs2, iv sat2, rv ob1, rv ob3, iv ((p5 >>> ((2 : Int32) &&& 31)) &&& (3 : Int32)), .unset, rv r32, .unset, .unset] [])
        refine Goes.step ?_ (fun _ k => XS.aload X32.here hx rfl (hb hby at_221) rfl rfl k)
        show Goes p e below _ (sF T32 m 223 #[iv p1, iv p2, iv p3, iv p4, iv p5, iv runs1, iv sat1, iv runs2, iv sat2, rv ob1, rv ob3, iv ((p5 >>> ((2 : Int32) &&& 31)) &&& (3 : Int32)), .unset, rv r32, .unset, .unset] [(.ref ob1)])
        refine Goes.step ?_ (fun _ k => XS.aload X32.here hx rfl (hb hby at_223) rfl rfl k)
        show Goes p e below _ (sF T32 m 225 #[iv p1, iv p2, iv p3, iv p4, iv p5, iv runs1, iv sat1, iv runs2, iv sat2, rv ob1, rv ob3, iv ((p5 >>> ((2 : Int32) &&& 31)) &&& (3 : Int32)), .unset, rv r32, .unset, .unset] [(.ref r32), (.ref ob1)])
        have E_ob1_34 := (((E_ob1_4.ext E3).keep K5).ext E32)
        obtain ⟨cq33, kq33, q33a, q33b, q33c⟩ := isOf hZ rfl E_ob1_34
        obtain ⟨_, _, ⟨T33, L33, k33, n33⟩, -, X33, ⟨Lc33, hQ33, l33, y33, z33⟩, st33⟩ := X32.virtualBack hx (y := (⟨"com/example/opicina/opicina/semantics/Estimate", "equals", "(Ljava/lang/Object;)Z"⟩ : MethodName)) (z := (⟨"com/example/opicina/opicina/semantics/Estimate", "equals", "(Ljava/lang/Object;)Z"⟩ : MethodName)) hown (mvT hZ (hw _ (List.mem_of_getElem? (i := 15) rfl))) (mvT hZ (hw _ (List.mem_of_getElem? (i := 16) rfl))) (notFace_of_selects (args := #[]) (mvT hZ (hw _ (List.mem_of_getElem? (i := 18) rfl)))) (mvT hZ (hw _ (List.mem_of_getElem? (i := 18) rfl))) (mvT hZ (hw _ (List.mem_of_getElem? (i := 17) rfl))) (by decide) (backOf (W := 0) (rmEqI l Z a0 hw [] ob1 r32  T32.heap n0 Zs32 A32) hZ (hw _ (List.mem_of_getElem? (i := 19) rfl)) (hw _ (List.mem_of_getElem? (i := 4) rfl)) (by decide) (by decide)) q33a q33c (g := (mkF m 225 #[iv p1, iv p2, iv p3, iv p4, iv p5, iv runs1, iv sat1, iv runs2, iv sat2, rv ob1, rv ob3, iv ((p5 >>> ((2 : Int32) &&& 31)) &&& (3 : Int32)), .unset, rv r32, .unset, .unset] [(.ref r32), (.ref ob1)])) rfl (by rw [hml]; rfl) (Steps.refl _) (argsL := [(.ref r32)]) (rest := []) (lenOf pd__28Ljava_2flang_2fObject_3b_29Z rfl) rfl (by show 2 * 0 + _ ≤ _; exact Nat.le_of_eq rfl) (hb hby at_225) (fun _ _ => ⟨rfl, rfl, (by decide : 0 + 1 + 1 + 1 + 0 ≤ _), (by decide : 0 + 2 + 2 + 1 + 0 ≤ _)⟩)
        dsimp only [Pt.U, Pt.locs, Pt.cells, Pt.slots] at X33 l33 y33 z33 st33 hQ33
        subst l33 y33 z33
        obtain ⟨rfl, N33q, e33⟩ := hQ33
        have N33 := Fr.app N32 N33q
        refine Goes.step ?_ (fun _ k => st33.trans k)
        show Goes p e below _ (sF T33 m 228 #[iv p1, iv p2, iv p3, iv p4, iv p5, iv runs1, iv sat1, iv runs2, iv sat2, rv ob1, rv ob3, iv ((p5 >>> ((2 : Int32) &&& 31)) &&& (3 : Int32)), .unset, rv r32, .unset, .unset] [(.int (0 : Int32))])
        refine Goes.step ?_ (fun _ k => XS.ifNo X33.here hx rfl (hb hby at_228) rfl ((if0 _ _).trans (teq (by decide : (0 : Int32) = (0 : Int32))).2) k)
        show Goes p e below _ (sF T33 m 231 #[iv p1, iv p2, iv p3, iv p4, iv p5, iv runs1, iv sat1, iv runs2, iv sat2, rv ob1, rv ob3, iv ((p5 >>> ((2 : Int32) &&& 31)) &&& (3 : Int32)), .unset, rv r32, .unset, .unset] [])
        refine Goes.step ?_ (fun _ k => XS.iconst X33.here hx rfl (hb hby at_231) k)
        show Goes p e below _ (sF T33 m 232 #[iv p1, iv p2, iv p3, iv p4, iv p5, iv runs1, iv sat1, iv runs2, iv sat2, rv ob1, rv ob3, iv ((p5 >>> ((2 : Int32) &&& 31)) &&& (3 : Int32)), .unset, rv r32, .unset, .unset] [(.int (1 : Int32))])
        refine Goes.step ?_ (fun _ k => XS.goto X33.here hx rfl (pc0 := 232) (pc' := 236) rfl (hb hby at_232) (by decide) (by decide) k)
        show Goes p e below _ (sF T33 m 236 #[iv p1, iv p2, iv p3, iv p4, iv p5, iv runs1, iv sat1, iv runs2, iv sat2, rv ob1, rv ob3, iv ((p5 >>> ((2 : Int32) &&& 31)) &&& (3 : Int32)), .unset, rv r32, .unset, .unset] [(.int (1 : Int32))])
        refine Goes.step ?_ (fun _ k => XS.istore X33.here hx rfl (hb hby at_236) rfl (l' := #[iv p1, iv p2, iv p3, iv p4, iv p5, iv runs1, iv sat1, iv runs2, iv sat2, rv ob1, rv ob3, iv ((p5 >>> ((2 : Int32) &&& 31)) &&& (3 : Int32)), iv (1 : Int32), rv r32, .unset, .unset]) rfl k)
        show Goes p e below _ (sF T33 m 238 #[iv p1, iv p2, iv p3, iv p4, iv p5, iv runs1, iv sat1, iv runs2, iv sat2, rv ob1, rv ob3, iv ((p5 >>> ((2 : Int32) &&& 31)) &&& (3 : Int32)), iv (1 : Int32), rv r32, .unset, .unset] [])
        refine Goes.step ?_ (fun _ k => XS.goto X33.here hx rfl (pc0 := 238) (pc' := 250) rfl (hb hby at_238) (by decide) (by decide) k)
        show Goes p e below _ (sF T33 m 250 #[iv p1, iv p2, iv p3, iv p4, iv p5, iv runs1, iv sat1, iv runs2, iv sat2, rv ob1, rv ob3, iv ((p5 >>> ((2 : Int32) &&& 31)) &&& (3 : Int32)), iv (1 : Int32), rv r32, .unset, .unset] [])
        refine Goes.step ?_ (fun _ k => XS.iload X33.here hx rfl (hb hby at_250) rfl  k)
        show Goes p e below _ (sF T33 m 252 #[iv p1, iv p2, iv p3, iv p4, iv p5, iv runs1, iv sat1, iv runs2, iv sat2, rv ob1, rv ob3, iv ((p5 >>> ((2 : Int32) &&& 31)) &&& (3 : Int32)), iv (1 : Int32), rv r32, .unset, .unset] [(.int (1 : Int32))])
        refine own_out X33 hx hlk hret rfl (Or.inl ⟨rfl, by simp, _, rfl⟩) (hb hby at_252) ?_ (by decide) (by decide)
        show Q0 n0 _ T33.heap _
        rw [e33]
        exact ⟨rfl, N33⟩
      · refine Goes.step ?_ (fun _ k => XS.icmpYes X5.here hx rfl (pc0 := 211) (pc' := 241) rfl (hb hby at_211) rfl (feq hc211_30).2 (by decide) (by decide) k)
        show Goes p e below _ (sF T5 m 241 #[iv p1, iv p2, iv p3, iv p4, iv p5, iv runs1, iv sat1, iv runs2, iv sat2, rv ob1, rv ob3, iv ((p5 >>> ((2 : Int32) &&& 31)) &&& (3 : Int32)), .unset, .unset, .unset, .unset] [])
        refine Goes.step ?_ (fun _ k => XS.aload X5.here hx rfl (hb hby at_241) rfl rfl k)
        show Goes p e below _ (sF T5 m 243 #[iv p1, iv p2, iv p3, iv p4, iv p5, iv runs1, iv sat1, iv runs2, iv sat2, rv ob1, rv ob3, iv ((p5 >>> ((2 : Int32) &&& 31)) &&& (3 : Int32)), .unset, .unset, .unset, .unset] [(.ref ob1)])
        refine Goes.step ?_ (fun _ k => XS.aload X5.here hx rfl (hb hby at_243) rfl rfl k)
        show Goes p e below _ (sF T5 m 245 #[iv p1, iv p2, iv p3, iv p4, iv p5, iv runs1, iv sat1, iv runs2, iv sat2, rv ob1, rv ob3, iv ((p5 >>> ((2 : Int32) &&& 31)) &&& (3 : Int32)), .unset, .unset, .unset, .unset] [(.ref ob1), (.ref ob1)])
        have E_ob1_35 := ((E_ob1_4.ext E3).keep K5)
        have F_ob1_satisfied_36 := ((Gs2.ext E3).keep K5 (ninS ne_ob1_ob3 nin0))
        have F_ob1_runs_37 := ((Gr2.ext E3).keep K5 (ninS ne_ob1_ob3 nin0))
        obtain ⟨cq38, kq38, q38a, q38b, q38c⟩ := isOf hZ rfl E_ob1_35
        obtain ⟨_, _, ⟨T38, L38, k38, n38⟩, -, X38, ⟨Lc38, hQ38, l38, y38, z38⟩, st38⟩ := X5.virtualBack hx (y := (⟨"com/example/opicina/opicina/semantics/Estimate", "equals", "(Ljava/lang/Object;)Z"⟩ : MethodName)) (z := (⟨"com/example/opicina/opicina/semantics/Estimate", "equals", "(Ljava/lang/Object;)Z"⟩ : MethodName)) hown (mvT hZ (hw _ (List.mem_of_getElem? (i := 15) rfl))) (mvT hZ (hw _ (List.mem_of_getElem? (i := 16) rfl))) (notFace_of_selects (args := #[]) (mvT hZ (hw _ (List.mem_of_getElem? (i := 18) rfl)))) (mvT hZ (hw _ (List.mem_of_getElem? (i := 18) rfl))) (mvT hZ (hw _ (List.mem_of_getElem? (i := 17) rfl))) (by decide) (backOf (W := 0) (rmEq l Z a0 hw [] ob1 ob1 sat1 runs1 sat1 runs1 1 T5.heap n0 Zs5 E_ob1_35 F_ob1_satisfied_36 F_ob1_runs_37 F_ob1_satisfied_36 F_ob1_runs_37 (by simp [eqV])) hZ (hw _ (List.mem_of_getElem? (i := 19) rfl)) (hw _ (List.mem_of_getElem? (i := 4) rfl)) (by decide) (by decide)) q38a q38c (g := (mkF m 245 #[iv p1, iv p2, iv p3, iv p4, iv p5, iv runs1, iv sat1, iv runs2, iv sat2, rv ob1, rv ob3, iv ((p5 >>> ((2 : Int32) &&& 31)) &&& (3 : Int32)), .unset, .unset, .unset, .unset] [(.ref ob1), (.ref ob1)])) rfl (by rw [hml]; rfl) (Steps.refl _) (argsL := [(.ref ob1)]) (rest := []) (lenOf pd__28Ljava_2flang_2fObject_3b_29Z rfl) rfl (by show 2 * 0 + _ ≤ _; exact Nat.le_of_eq rfl) (hb hby at_245) (fun _ _ => ⟨rfl, rfl, (by decide : 0 + 1 + 1 + 0 ≤ _), (by decide : 0 + 2 + 2 + 0 ≤ _)⟩)
        dsimp only [Pt.U, Pt.locs, Pt.cells, Pt.slots] at X38 l38 y38 z38 st38 hQ38
        subst l38 y38 z38
        obtain ⟨rfl, N38q, e38⟩ := hQ38
        have N38 := Fr.app N5 N38q
        refine Goes.step ?_ (fun _ k => st38.trans k)
        show Goes p e below _ (sF T38 m 248 #[iv p1, iv p2, iv p3, iv p4, iv p5, iv runs1, iv sat1, iv runs2, iv sat2, rv ob1, rv ob3, iv ((p5 >>> ((2 : Int32) &&& 31)) &&& (3 : Int32)), .unset, .unset, .unset, .unset] [(.int (1 : Int32))])
        refine Goes.step ?_ (fun _ k => XS.istore X38.here hx rfl (hb hby at_248) rfl (l' := #[iv p1, iv p2, iv p3, iv p4, iv p5, iv runs1, iv sat1, iv runs2, iv sat2, rv ob1, rv ob3, iv ((p5 >>> ((2 : Int32) &&& 31)) &&& (3 : Int32)), iv (1 : Int32), .unset, .unset, .unset]) rfl k)
        show Goes p e below _ (sF T38 m 250 #[iv p1, iv p2, iv p3, iv p4, iv p5, iv runs1, iv sat1, iv runs2, iv sat2, rv ob1, rv ob3, iv ((p5 >>> ((2 : Int32) &&& 31)) &&& (3 : Int32)), iv (1 : Int32), .unset, .unset, .unset] [])
        refine Goes.step ?_ (fun _ k => XS.iload X38.here hx rfl (hb hby at_250) rfl  k)
        show Goes p e below _ (sF T38 m 252 #[iv p1, iv p2, iv p3, iv p4, iv p5, iv runs1, iv sat1, iv runs2, iv sat2, rv ob1, rv ob3, iv ((p5 >>> ((2 : Int32) &&& 31)) &&& (3 : Int32)), iv (1 : Int32), .unset, .unset, .unset] [(.int (1 : Int32))])
        refine own_out X38 hx hlk hret rfl (Or.inl ⟨rfl, by simp, _, rfl⟩) (hb hby at_252) ?_ (by decide) (by decide)
        show Q0 n0 _ T38.heap _
        rw [e38]
        exact ⟨rfl, N38⟩
theorem own_runs (x : Int32) : ¬ ((1 : Int32) + ((x &&& (2147483647 : Int32)) % (2147483647 : Int32))) < 1 := by
  have h1 := c_mask x 2147483647 31 (by decide) (by decide)
  have h2 := (c_irem (x &&& (2147483647 : Int32)) 2147483647 2147483647 (by decide)).1 (by rw [h1]; omega)
  have h3 := c_iadd 1 ((x &&& (2147483647 : Int32)) % (2147483647 : Int32))
  have h4 := rng32 ((1 : Int32) + ((x &&& (2147483647 : Int32)) % (2147483647 : Int32)))
  have e1 : (1 : Int32).toInt = 1 := by decide
  rw [Int32.lt_iff_toInt_lt, e1]
  rw [e1, h2, h1] at h3
  omega
theorem own_den (r : Int32) (h : ¬ r < 1) : (r.toInt64 + (1 : Int64)) ≠ 0 ∧ (r.toInt64 + (1 : Int64)).toInt = r.toInt + 1 ∧ 1 ≤ r.toInt := by
  have e1 : (1 : Int32).toInt = 1 := by decide
  have e2 : (1 : Int64).toInt = 1 := by decide
  have e3 : (0 : Int64).toInt = 0 := by decide
  rw [Int32.lt_iff_toInt_lt, e1] at h
  have a := c_ladd r.toInt64 1
  have b := c_i2l r
  have c := rng32 r
  have d := rng64 (r.toInt64 + (1 : Int64))
  rw [b, e2] at a
  have q : (r.toInt64 + (1 : Int64)).toInt = r.toInt + 1 := by omega
  refine ⟨fun z => ?_, q, by omega⟩
  have := congrArg Int64.toInt z
  rw [q, e3] at this
  omega
theorem own_sat (x r : Int32) (h : ¬ r < 1) : ¬ ((((x.toInt64) &&& (2147483647 : Int64)) % ((r.toInt64) + (1 : Int64))).toInt32) < 0 ∧ ¬ r < ((((x.toInt64) &&& (2147483647 : Int64)) % ((r.toInt64) + (1 : Int64))).toInt32) := by
  obtain ⟨-, q, hr⟩ := own_den r h
  have h1 := c_maskL x.toInt64 2147483647 31 (by decide) (by decide)
  have h2 : (((x.toInt64) &&& (2147483647 : Int64)) % ((r.toInt64) + (1 : Int64))).toInt = ((x.toInt64) &&& (2147483647 : Int64)).toInt % (r.toInt + 1) := by
    rw [Int64.toInt_mod, q]
    exact Int.tmod_eq_emod_of_nonneg (by rw [h1]; omega)
  have h3 := c_l2i (((x.toInt64) &&& (2147483647 : Int64)) % ((r.toInt64) + (1 : Int64)))
  have h4 := rng32 ((((x.toInt64) &&& (2147483647 : Int64)) % ((r.toInt64) + (1 : Int64))).toInt32)
  have h5 := rng32 r
  have h6 : 0 ≤ ((x.toInt64) &&& (2147483647 : Int64)).toInt % (r.toInt + 1) := Int.emod_nonneg _ (by omega)
  have h7 : ((x.toInt64) &&& (2147483647 : Int64)).toInt % (r.toInt + 1) < r.toInt + 1 := Int.emod_lt_of_pos _ (by omega)
  have e0 : (0 : Int32).toInt = 0 := by decide
  rw [Int32.lt_iff_toInt_lt, Int32.lt_iff_toInt_lt, e0]
  rw [h2] at h3
  omega
theorem own_min (x y : Int32) (h1 : ¬ x < 0) (h2 : ¬ y < 1) : ¬ minV x y < 0 ∧ ¬ y < minV x y := by
  have e1 : (1 : Int32).toInt = 1 := by decide
  have e0 : (0 : Int32).toInt = 0 := by decide
  simp only [minV]
  split
  · rename_i q
    simp only [Int32.lt_iff_toInt_lt, e0, e1] at *
    omega
  · rename_i q
    exact ⟨h1, q⟩
theorem pn_com_example_opicina_opicina_semantics_EstimateEqualsPinLaw : plainName "com/example/opicina/opicina/semantics/EstimateEqualsPinLaw" = true := by first | (simp [plainName, overriddenIn]; done) | decide +kernel
theorem ef_rm0 (m : MethodId) (x0 : Int32) (x1 : Int32) (x2 : Int32) (x3 : Int32) (x4 : Int32) : entryFrame m #[(.int x0), (.int x1), (.int x2), (.int x3), (.int x4)] maxLocals = mkF m 0 #[iv x0, iv x1, iv x2, iv x3, iv x4, .unset, .unset, .unset, .unset, .unset, .unset, .unset, .unset, .unset, .unset, .unset] [] := by first | (simp [entryFrame, mkF, argsToLocals, Value.category, maxLocals]; done) | rfl
theorem pd__28II_29I : parseMethodDescriptor "(II)I" = some ⟨[.int, .int], some .int⟩ := by decide +kernel
set_option maxRecDepth 65536 in
set_option maxHeartbeats 40000000 in
theorem rm0 (l : Launch) (Z : State) (a0 : Array Value) (hw : ∀ d ∈ tables_1, d.before a0 Z = true) (ws : List Jvm.Cond) (p1 : Int32) (p2 : Int32) (p3 : Int32) (p4 : Int32) (p5 : Int32) (cc : Addr) (cl : Cell) (h0 : Heap) (n0 : Nat) (Z0 : n0 ≤ h0.size) (O0 : Old Z n0 h0) (S_high : Sta Z Z.heap "java/lang/Integer$IntegerCache" "high" "I" (.int (127 : Int32))) (S_cache : Sta Z Z.heap "java/lang/Integer$IntegerCache" "cache" "[Ljava/lang/Integer;" (.ref cc)) (Ar_cc : Arr Z Z.heap cc cl (.object "java/lang/Integer")) (Sz_cc : cl.slots.size = 256) (Hel : ∀ i, i < 256 → ∃ x, cl.slots[i]? = some (.ref x) ∧ Exa Z Z.heap x "java/lang/Integer") :
    MetFree l x (head1 (Jvm.Cond.code x code maxLocals ret :: ws) room_1) (fun a U => a = #[(.int p1), (.int p2), (.int p3), (.int p4), (.int p5)] ∧ Z.Warmed39 U.vm ∧ U.heap = h0) (fun _ _ _ _ _ => True) (fun _ U o U' => ∃ v L, o = .returned v ∧ Q0 n0 v U'.heap L ∧ FrameEnd U o U' L room_1.cells room_1.slots) := by
  refine MetFree.of_bodySF (plainFor_of_name pn_com_example_opicina_opicina_semantics_EstimateEqualsPinLaw) hisR ?_
  intro p e s m args below meth c s₁ Bd hml0 hP hK
  obtain ⟨rfl, hZ, hh⟩ := hP
  have hx := Bd.exec
  have hby := Bd.bytes
  have hlk : meth.locks = false := BodyLoose.notSynchronized Bd
  have hml : c.maxLocals = 16 := hml0
  have hown : s.vm.findClass "com/example/opicina/opicina/semantics/EstimateEqualsPinLaw" = some m.cls := findClass_of_methodNamed Bd.named
  have hnm := (name_of_methodNamed Bd.named Bd.method).1
  have X0 : Stand p l e room_1 s m #[(.int p1), (.int p2), (.int p3), (.int p4), (.int p5)] below meth c s₁ [] 0 0 := Stand.of_body Bd
  have e0 : s₁.heap = h0 := by rw [← hh, Bd.state]; rfl
  have N0 := Fr.nil n0
  have hret := Bd.returns
  show Goes p e below (fun o U' => ∃ v L, o = .returned v ∧ Q0 n0 v U'.heap L ∧ FrameEnd s o U' L room_1.cells room_1.slots) (s₁.setTop (entryFrame m #[(.int p1), (.int p2), (.int p3), (.int p4), (.int p5)] maxLocals))
  refine Goes.step ?_ (fun _ k => castTop (ef_rm0 m p1 p2 p3 p4 p5) k)
  show Goes p e below _ (sF s₁ m 0 #[iv p1, iv p2, iv p3, iv p4, iv p5, .unset, .unset, .unset, .unset, .unset, .unset, .unset, .unset, .unset, .unset, .unset] [])
  refine Goes.step ?_ (fun _ k => XS.iconst X0.here hx rfl (hb hby at_0) k)
  show Goes p e below _ (sF s₁ m 1 #[iv p1, iv p2, iv p3, iv p4, iv p5, .unset, .unset, .unset, .unset, .unset, .unset, .unset, .unset, .unset, .unset, .unset] [(.int (1 : Int32))])
  refine Goes.step ?_ (fun _ k => XS.iloadN X0.here hx rfl (hb hby at_1) rfl  k)
  show Goes p e below _ (sF s₁ m 2 #[iv p1, iv p2, iv p3, iv p4, iv p5, .unset, .unset, .unset, .unset, .unset, .unset, .unset, .unset, .unset, .unset, .unset] [(.int p1), (.int (1 : Int32))])
  refine Goes.step ?_ (fun _ k => X0.ldcI hx hown (mvT hZ (hw _ (List.mem_of_getElem? (i := 0) rfl))) rfl (hb hby at_2) k)
  show Goes p e below _ (sF s₁ m 4 #[iv p1, iv p2, iv p3, iv p4, iv p5, .unset, .unset, .unset, .unset, .unset, .unset, .unset, .unset, .unset, .unset, .unset] [(.int (2147483647 : Int32)), (.int p1), (.int (1 : Int32))])
  refine Goes.step ?_ (fun _ k => XS.iand X0.here hx rfl (hb hby at_4) rfl k)
  show Goes p e below _ (sF s₁ m 5 #[iv p1, iv p2, iv p3, iv p4, iv p5, .unset, .unset, .unset, .unset, .unset, .unset, .unset, .unset, .unset, .unset, .unset] [(.int (p1 &&& (2147483647 : Int32))), (.int (1 : Int32))])
  refine Goes.step ?_ (fun _ k => X0.ldcI hx hown (mvT hZ (hw _ (List.mem_of_getElem? (i := 0) rfl))) rfl (hb hby at_5) k)
  show Goes p e below _ (sF s₁ m 7 #[iv p1, iv p2, iv p3, iv p4, iv p5, .unset, .unset, .unset, .unset, .unset, .unset, .unset, .unset, .unset, .unset, .unset] [(.int (2147483647 : Int32)), (.int (p1 &&& (2147483647 : Int32))), (.int (1 : Int32))])
  refine Goes.step ?_ (fun _ k => iremM X0 hx rfl (hb hby at_7) rfl (by decide) k)
  show Goes p e below _ (sF s₁ m 8 #[iv p1, iv p2, iv p3, iv p4, iv p5, .unset, .unset, .unset, .unset, .unset, .unset, .unset, .unset, .unset, .unset, .unset] [(.int ((p1 &&& (2147483647 : Int32)) % (2147483647 : Int32))), (.int (1 : Int32))])
  refine Goes.step ?_ (fun _ k => XS.iadd X0.here hx rfl (hb hby at_8) rfl k)
  show Goes p e below _ (sF s₁ m 9 #[iv p1, iv p2, iv p3, iv p4, iv p5, .unset, .unset, .unset, .unset, .unset, .unset, .unset, .unset, .unset, .unset, .unset] [(.int ((1 : Int32) + ((p1 &&& (2147483647 : Int32)) % (2147483647 : Int32))))])
  refine Goes.step ?_ (fun _ k => XS.istore X0.here hx rfl (hb hby at_9) rfl (l' := #[iv p1, iv p2, iv p3, iv p4, iv p5, iv ((1 : Int32) + ((p1 &&& (2147483647 : Int32)) % (2147483647 : Int32))), .unset, .unset, .unset, .unset, .unset, .unset, .unset, .unset, .unset, .unset]) rfl k)
  show Goes p e below _ (sF s₁ m 11 #[iv p1, iv p2, iv p3, iv p4, iv p5, iv ((1 : Int32) + ((p1 &&& (2147483647 : Int32)) % (2147483647 : Int32))), .unset, .unset, .unset, .unset, .unset, .unset, .unset, .unset, .unset, .unset] [])
  have hr1 := own_runs p1
  obtain ⟨runs1, qruns1⟩ : ∃ z, z = ((1 : Int32) + ((p1 &&& (2147483647 : Int32)) % (2147483647 : Int32))) := ⟨_, rfl⟩
  rw [← qruns1] at hr1 ⊢
  show Goes p e below _ (sF s₁ m 11 #[iv p1, iv p2, iv p3, iv p4, iv p5, iv runs1, .unset, .unset, .unset, .unset, .unset, .unset, .unset, .unset, .unset, .unset] [])
  refine Goes.step ?_ (fun _ k => XS.iloadN X0.here hx rfl (hb hby at_11) rfl  k)
  show Goes p e below _ (sF s₁ m 12 #[iv p1, iv p2, iv p3, iv p4, iv p5, iv runs1, .unset, .unset, .unset, .unset, .unset, .unset, .unset, .unset, .unset, .unset] [(.int p2)])
  refine Goes.step ?_ (fun _ k => XS.i2l X0.here hx rfl (hb hby at_12) rfl k)
  show Goes p e below _ (sF s₁ m 13 #[iv p1, iv p2, iv p3, iv p4, iv p5, iv runs1, .unset, .unset, .unset, .unset, .unset, .unset, .unset, .unset, .unset, .unset] [(.long (p2.toInt64))])
  refine Goes.step ?_ (fun _ k => X0.ldc2J hx hown (mvT hZ (hw _ (List.mem_of_getElem? (i := 1) rfl))) rfl (hb hby at_13) k)
  show Goes p e below _ (sF s₁ m 16 #[iv p1, iv p2, iv p3, iv p4, iv p5, iv runs1, .unset, .unset, .unset, .unset, .unset, .unset, .unset, .unset, .unset, .unset] [(.long (2147483647 : Int64)), (.long (p2.toInt64))])
  refine Goes.step ?_ (fun _ k => XS.land X0.here hx rfl (hb hby at_16) rfl k)
  show Goes p e below _ (sF s₁ m 17 #[iv p1, iv p2, iv p3, iv p4, iv p5, iv runs1, .unset, .unset, .unset, .unset, .unset, .unset, .unset, .unset, .unset, .unset] [(.long ((p2.toInt64) &&& (2147483647 : Int64)))])
  refine Goes.step ?_ (fun _ k => XS.iload X0.here hx rfl (hb hby at_17) rfl  k)
  show Goes p e below _ (sF s₁ m 19 #[iv p1, iv p2, iv p3, iv p4, iv p5, iv runs1, .unset, .unset, .unset, .unset, .unset, .unset, .unset, .unset, .unset, .unset] [(.int runs1), (.long ((p2.toInt64) &&& (2147483647 : Int64)))])
  refine Goes.step ?_ (fun _ k => XS.i2l X0.here hx rfl (hb hby at_19) rfl k)
  show Goes p e below _ (sF s₁ m 20 #[iv p1, iv p2, iv p3, iv p4, iv p5, iv runs1, .unset, .unset, .unset, .unset, .unset, .unset, .unset, .unset, .unset, .unset] [(.long (runs1.toInt64)), (.long ((p2.toInt64) &&& (2147483647 : Int64)))])
  refine Goes.step ?_ (fun _ k => XS.lconst X0.here hx rfl (hb hby at_20) k)
  show Goes p e below _ (sF s₁ m 21 #[iv p1, iv p2, iv p3, iv p4, iv p5, iv runs1, .unset, .unset, .unset, .unset, .unset, .unset, .unset, .unset, .unset, .unset] [(.long (1 : Int64)), (.long (runs1.toInt64)), (.long ((p2.toInt64) &&& (2147483647 : Int64)))])
  refine Goes.step ?_ (fun _ k => XS.ladd X0.here hx rfl (hb hby at_21) rfl k)
  show Goes p e below _ (sF s₁ m 22 #[iv p1, iv p2, iv p3, iv p4, iv p5, iv runs1, .unset, .unset, .unset, .unset, .unset, .unset, .unset, .unset, .unset, .unset] [(.long ((runs1.toInt64) + (1 : Int64))), (.long ((p2.toInt64) &&& (2147483647 : Int64)))])
  refine Goes.step ?_ (fun _ k => own_lrem X0 hx rfl (hb hby at_22) rfl (own_den runs1 hr1).1 k)
  show Goes p e below _ (sF s₁ m 23 #[iv p1, iv p2, iv p3, iv p4, iv p5, iv runs1, .unset, .unset, .unset, .unset, .unset, .unset, .unset, .unset, .unset, .unset] [(.long (((p2.toInt64) &&& (2147483647 : Int64)) % ((runs1.toInt64) + (1 : Int64))))])
  refine Goes.step ?_ (fun _ k => XS.l2i X0.here hx rfl (hb hby at_23) rfl k)
  show Goes p e below _ (sF s₁ m 24 #[iv p1, iv p2, iv p3, iv p4, iv p5, iv runs1, .unset, .unset, .unset, .unset, .unset, .unset, .unset, .unset, .unset, .unset] [(.int ((((p2.toInt64) &&& (2147483647 : Int64)) % ((runs1.toInt64) + (1 : Int64))).toInt32))])
  refine Goes.step ?_ (fun _ k => XS.istore X0.here hx rfl (hb hby at_24) rfl (l' := #[iv p1, iv p2, iv p3, iv p4, iv p5, iv runs1, iv ((((p2.toInt64) &&& (2147483647 : Int64)) % ((runs1.toInt64) + (1 : Int64))).toInt32), .unset, .unset, .unset, .unset, .unset, .unset, .unset, .unset, .unset]) rfl k)
  show Goes p e below _ (sF s₁ m 26 #[iv p1, iv p2, iv p3, iv p4, iv p5, iv runs1, iv ((((p2.toInt64) &&& (2147483647 : Int64)) % ((runs1.toInt64) + (1 : Int64))).toInt32), .unset, .unset, .unset, .unset, .unset, .unset, .unset, .unset, .unset] [])
  have hs1 := own_sat p2 runs1 hr1
  obtain ⟨sat1, qsat1⟩ : ∃ z, z = ((((p2.toInt64) &&& (2147483647 : Int64)) % ((runs1.toInt64) + (1 : Int64))).toInt32) := ⟨_, rfl⟩
  rw [← qsat1] at hs1 ⊢
  show Goes p e below _ (sF s₁ m 26 #[iv p1, iv p2, iv p3, iv p4, iv p5, iv runs1, iv sat1, .unset, .unset, .unset, .unset, .unset, .unset, .unset, .unset, .unset] [])
  refine Goes.step ?_ (fun _ k => XS.iload X0.here hx rfl (hb hby at_26) rfl  k)
  show Goes p e below _ (sF s₁ m 28 #[iv p1, iv p2, iv p3, iv p4, iv p5, iv runs1, iv sat1, .unset, .unset, .unset, .unset, .unset, .unset, .unset, .unset, .unset] [(.int p5)])
  refine Goes.step ?_ (fun _ k => XS.iconst X0.here hx rfl (hb hby at_28) k)
  show Goes p e below _ (sF s₁ m 29 #[iv p1, iv p2, iv p3, iv p4, iv p5, iv runs1, iv sat1, .unset, .unset, .unset, .unset, .unset, .unset, .unset, .unset, .unset] [(.int (1 : Int32)), (.int p5)])
  refine Goes.step ?_ (fun _ k => XS.iand X0.here hx rfl (hb hby at_29) rfl k)
  show Goes p e below _ (sF s₁ m 30 #[iv p1, iv p2, iv p3, iv p4, iv p5, iv runs1, iv sat1, .unset, .unset, .unset, .unset, .unset, .unset, .unset, .unset, .unset] [(.int (p5 &&& (1 : Int32)))])
  by_cases hc30_1 : (p5 &&& (1 : Int32)) = (0 : Int32)
  · refine Goes.step ?_ (fun _ k => XS.ifYes X0.here hx rfl (pc0 := 30) (pc' := 38) rfl (hb hby at_30) rfl ((if0 _ _).trans (teq hc30_1).1) (by decide) (by decide) k)
    show Goes p e below _ (sF s₁ m 38 #[iv p1, iv p2, iv p3, iv p4, iv p5, iv runs1, iv sat1, .unset, .unset, .unset, .unset, .unset, .unset, .unset, .unset, .unset] [])
    refine Goes.step ?_ (fun _ k => XS.iconst X0.here hx rfl (hb hby at_38) k)
    show Goes p e below _ (sF s₁ m 39 #[iv p1, iv p2, iv p3, iv p4, iv p5, iv runs1, iv sat1, .unset, .unset, .unset, .unset, .unset, .unset, .unset, .unset, .unset] [(.int (1 : Int32))])
    refine Goes.step ?_ (fun _ k => XS.iloadN X0.here hx rfl (hb hby at_39) rfl  k)
    show Goes p e below _ (sF s₁ m 40 #[iv p1, iv p2, iv p3, iv p4, iv p5, iv runs1, iv sat1, .unset, .unset, .unset, .unset, .unset, .unset, .unset, .unset, .unset] [(.int p3), (.int (1 : Int32))])
    refine Goes.step ?_ (fun _ k => X0.ldcI hx hown (mvT hZ (hw _ (List.mem_of_getElem? (i := 0) rfl))) rfl (hb hby at_40) k)
    show Goes p e below _ (sF s₁ m 42 #[iv p1, iv p2, iv p3, iv p4, iv p5, iv runs1, iv sat1, .unset, .unset, .unset, .unset, .unset, .unset, .unset, .unset, .unset] [(.int (2147483647 : Int32)), (.int p3), (.int (1 : Int32))])
    refine Goes.step ?_ (fun _ k => XS.iand X0.here hx rfl (hb hby at_42) rfl k)
    show Goes p e below _ (sF s₁ m 43 #[iv p1, iv p2, iv p3, iv p4, iv p5, iv runs1, iv sat1, .unset, .unset, .unset, .unset, .unset, .unset, .unset, .unset, .unset] [(.int (p3 &&& (2147483647 : Int32))), (.int (1 : Int32))])
    refine Goes.step ?_ (fun _ k => X0.ldcI hx hown (mvT hZ (hw _ (List.mem_of_getElem? (i := 0) rfl))) rfl (hb hby at_43) k)
    show Goes p e below _ (sF s₁ m 45 #[iv p1, iv p2, iv p3, iv p4, iv p5, iv runs1, iv sat1, .unset, .unset, .unset, .unset, .unset, .unset, .unset, .unset, .unset] [(.int (2147483647 : Int32)), (.int (p3 &&& (2147483647 : Int32))), (.int (1 : Int32))])
    refine Goes.step ?_ (fun _ k => iremM X0 hx rfl (hb hby at_45) rfl (by decide) k)
    show Goes p e below _ (sF s₁ m 46 #[iv p1, iv p2, iv p3, iv p4, iv p5, iv runs1, iv sat1, .unset, .unset, .unset, .unset, .unset, .unset, .unset, .unset, .unset] [(.int ((p3 &&& (2147483647 : Int32)) % (2147483647 : Int32))), (.int (1 : Int32))])
    refine Goes.step ?_ (fun _ k => XS.iadd X0.here hx rfl (hb hby at_46) rfl k)
    show Goes p e below _ (sF s₁ m 47 #[iv p1, iv p2, iv p3, iv p4, iv p5, iv runs1, iv sat1, .unset, .unset, .unset, .unset, .unset, .unset, .unset, .unset, .unset] [(.int ((1 : Int32) + ((p3 &&& (2147483647 : Int32)) % (2147483647 : Int32))))])
    refine Goes.step ?_ (fun _ k => XS.istore X0.here hx rfl (hb hby at_47) rfl (l' := #[iv p1, iv p2, iv p3, iv p4, iv p5, iv runs1, iv sat1, iv ((1 : Int32) + ((p3 &&& (2147483647 : Int32)) % (2147483647 : Int32))), .unset, .unset, .unset, .unset, .unset, .unset, .unset, .unset]) rfl k)
    show Goes p e below _ (sF s₁ m 49 #[iv p1, iv p2, iv p3, iv p4, iv p5, iv runs1, iv sat1, iv ((1 : Int32) + ((p3 &&& (2147483647 : Int32)) % (2147483647 : Int32))), .unset, .unset, .unset, .unset, .unset, .unset, .unset, .unset] [])
    have hr2 : ¬ ((1 : Int32) + ((p3 &&& (2147483647 : Int32)) % (2147483647 : Int32))) < 1 := own_runs p3
    obtain ⟨runs2, qruns2⟩ : ∃ z, z = ((1 : Int32) + ((p3 &&& (2147483647 : Int32)) % (2147483647 : Int32))) := ⟨_, rfl⟩
    rw [← qruns2] at hr2 ⊢
    show Goes p e below _ (sF s₁ m 49 #[iv p1, iv p2, iv p3, iv p4, iv p5, iv runs1, iv sat1, iv runs2, .unset, .unset, .unset, .unset, .unset, .unset, .unset, .unset] [])
    refine Goes.step ?_ (fun _ k => XS.iload X0.here hx rfl (hb hby at_49) rfl  k)
    show Goes p e below _ (sF s₁ m 51 #[iv p1, iv p2, iv p3, iv p4, iv p5, iv runs1, iv sat1, iv runs2, .unset, .unset, .unset, .unset, .unset, .unset, .unset, .unset] [(.int p5)])
    refine Goes.step ?_ (fun _ k => XS.iconst X0.here hx rfl (hb hby at_51) k)
    show Goes p e below _ (sF s₁ m 52 #[iv p1, iv p2, iv p3, iv p4, iv p5, iv runs1, iv sat1, iv runs2, .unset, .unset, .unset, .unset, .unset, .unset, .unset, .unset] [(.int (2 : Int32)), (.int p5)])
    refine Goes.step ?_ (fun _ k => XS.iand X0.here hx rfl (hb hby at_52) rfl k)
    show Goes p e below _ (sF s₁ m 53 #[iv p1, iv p2, iv p3, iv p4, iv p5, iv runs1, iv sat1, iv runs2, .unset, .unset, .unset, .unset, .unset, .unset, .unset, .unset] [(.int (p5 &&& (2 : Int32)))])
    by_cases hc53_2 : (p5 &&& (2 : Int32)) = (0 : Int32)
    · refine Goes.step ?_ (fun _ k => XS.ifYes X0.here hx rfl (pc0 := 53) (pc' := 66) rfl (hb hby at_53) rfl ((if0 _ _).trans (teq hc53_2).1) (by decide) (by decide) k)
      show Goes p e below _ (sF s₁ m 66 #[iv p1, iv p2, iv p3, iv p4, iv p5, iv runs1, iv sat1, iv runs2, .unset, .unset, .unset, .unset, .unset, .unset, .unset, .unset] [])
      refine Goes.step ?_ (fun _ k => XS.iloadN X0.here hx rfl (hb hby at_66) rfl  k)
      show Goes p e below _ (sF s₁ m 67 #[iv p1, iv p2, iv p3, iv p4, iv p5, iv runs1, iv sat1, iv runs2, .unset, .unset, .unset, .unset, .unset, .unset, .unset, .unset] [(.int p4)])
      refine Goes.step ?_ (fun _ k => XS.i2l X0.here hx rfl (hb hby at_67) rfl k)
      show Goes p e below _ (sF s₁ m 68 #[iv p1, iv p2, iv p3, iv p4, iv p5, iv runs1, iv sat1, iv runs2, .unset, .unset, .unset, .unset, .unset, .unset, .unset, .unset] [(.long (p4.toInt64))])
      refine Goes.step ?_ (fun _ k => X0.ldc2J hx hown (mvT hZ (hw _ (List.mem_of_getElem? (i := 1) rfl))) rfl (hb hby at_68) k)
      show Goes p e below _ (sF s₁ m 71 #[iv p1, iv p2, iv p3, iv p4, iv p5, iv runs1, iv sat1, iv runs2, .unset, .unset, .unset, .unset, .unset, .unset, .unset, .unset] [(.long (2147483647 : Int64)), (.long (p4.toInt64))])
      refine Goes.step ?_ (fun _ k => XS.land X0.here hx rfl (hb hby at_71) rfl k)
      show Goes p e below _ (sF s₁ m 72 #[iv p1, iv p2, iv p3, iv p4, iv p5, iv runs1, iv sat1, iv runs2, .unset, .unset, .unset, .unset, .unset, .unset, .unset, .unset] [(.long ((p4.toInt64) &&& (2147483647 : Int64)))])
      refine Goes.step ?_ (fun _ k => XS.iload X0.here hx rfl (hb hby at_72) rfl  k)
      show Goes p e below _ (sF s₁ m 74 #[iv p1, iv p2, iv p3, iv p4, iv p5, iv runs1, iv sat1, iv runs2, .unset, .unset, .unset, .unset, .unset, .unset, .unset, .unset] [(.int runs2), (.long ((p4.toInt64) &&& (2147483647 : Int64)))])
      refine Goes.step ?_ (fun _ k => XS.i2l X0.here hx rfl (hb hby at_74) rfl k)
      show Goes p e below _ (sF s₁ m 75 #[iv p1, iv p2, iv p3, iv p4, iv p5, iv runs1, iv sat1, iv runs2, .unset, .unset, .unset, .unset, .unset, .unset, .unset, .unset] [(.long (runs2.toInt64)), (.long ((p4.toInt64) &&& (2147483647 : Int64)))])
      refine Goes.step ?_ (fun _ k => XS.lconst X0.here hx rfl (hb hby at_75) k)
      show Goes p e below _ (sF s₁ m 76 #[iv p1, iv p2, iv p3, iv p4, iv p5, iv runs1, iv sat1, iv runs2, .unset, .unset, .unset, .unset, .unset, .unset, .unset, .unset] [(.long (1 : Int64)), (.long (runs2.toInt64)), (.long ((p4.toInt64) &&& (2147483647 : Int64)))])
      refine Goes.step ?_ (fun _ k => XS.ladd X0.here hx rfl (hb hby at_76) rfl k)
      show Goes p e below _ (sF s₁ m 77 #[iv p1, iv p2, iv p3, iv p4, iv p5, iv runs1, iv sat1, iv runs2, .unset, .unset, .unset, .unset, .unset, .unset, .unset, .unset] [(.long ((runs2.toInt64) + (1 : Int64))), (.long ((p4.toInt64) &&& (2147483647 : Int64)))])
      refine Goes.step ?_ (fun _ k => own_lrem X0 hx rfl (hb hby at_77) rfl (own_den runs2 hr2).1 k)
      show Goes p e below _ (sF s₁ m 78 #[iv p1, iv p2, iv p3, iv p4, iv p5, iv runs1, iv sat1, iv runs2, .unset, .unset, .unset, .unset, .unset, .unset, .unset, .unset] [(.long (((p4.toInt64) &&& (2147483647 : Int64)) % ((runs2.toInt64) + (1 : Int64))))])
      refine Goes.step ?_ (fun _ k => XS.l2i X0.here hx rfl (hb hby at_78) rfl k)
      show Goes p e below _ (sF s₁ m 79 #[iv p1, iv p2, iv p3, iv p4, iv p5, iv runs1, iv sat1, iv runs2, .unset, .unset, .unset, .unset, .unset, .unset, .unset, .unset] [(.int ((((p4.toInt64) &&& (2147483647 : Int64)) % ((runs2.toInt64) + (1 : Int64))).toInt32))])
      refine Goes.step ?_ (fun _ k => XS.istore X0.here hx rfl (hb hby at_79) rfl (l' := #[iv p1, iv p2, iv p3, iv p4, iv p5, iv runs1, iv sat1, iv runs2, iv ((((p4.toInt64) &&& (2147483647 : Int64)) % ((runs2.toInt64) + (1 : Int64))).toInt32), .unset, .unset, .unset, .unset, .unset, .unset, .unset]) rfl k)
      show Goes p e below _ (sF s₁ m 81 #[iv p1, iv p2, iv p3, iv p4, iv p5, iv runs1, iv sat1, iv runs2, iv ((((p4.toInt64) &&& (2147483647 : Int64)) % ((runs2.toInt64) + (1 : Int64))).toInt32), .unset, .unset, .unset, .unset, .unset, .unset, .unset] [])
      have hs2 : ¬ ((((p4.toInt64) &&& (2147483647 : Int64)) % ((runs2.toInt64) + (1 : Int64))).toInt32) < 0 ∧ ¬ runs2 < ((((p4.toInt64) &&& (2147483647 : Int64)) % ((runs2.toInt64) + (1 : Int64))).toInt32) := own_sat p4 runs2 hr2
      obtain ⟨sat2, qsat2⟩ : ∃ z, z = ((((p4.toInt64) &&& (2147483647 : Int64)) % ((runs2.toInt64) + (1 : Int64))).toInt32) := ⟨_, rfl⟩
      rw [← qsat2] at hs2 ⊢
      show Goes p e below _ (sF s₁ m 81 #[iv p1, iv p2, iv p3, iv p4, iv p5, iv runs1, iv sat1, iv runs2, iv sat2, .unset, .unset, .unset, .unset, .unset, .unset, .unset] [])
      exact tail81 p1 p2 p3 p4 p5 runs1 sat1 runs2 sat2 cc cl X0 hx hZ hw hby hlk hret hml hown e0 N0 Z0 O0 S_high S_cache Ar_cc Sz_cc Hel hr1 hs1.1 hs1.2 hr2 hs2.1 hs2.2
    · refine Goes.step ?_ (fun _ k => XS.ifNo X0.here hx rfl (hb hby at_53) rfl ((if0 _ _).trans (feq hc53_2).1) k)
      show Goes p e below _ (sF s₁ m 56 #[iv p1, iv p2, iv p3, iv p4, iv p5, iv runs1, iv sat1, iv runs2, .unset, .unset, .unset, .unset, .unset, .unset, .unset, .unset] [])
      refine Goes.step ?_ (fun _ k => XS.iload X0.here hx rfl (hb hby at_56) rfl  k)
      show Goes p e below _ (sF s₁ m 58 #[iv p1, iv p2, iv p3, iv p4, iv p5, iv runs1, iv sat1, iv runs2, .unset, .unset, .unset, .unset, .unset, .unset, .unset, .unset] [(.int sat1)])
      refine Goes.step ?_ (fun _ k => XS.iload X0.here hx rfl (hb hby at_58) rfl  k)
      show Goes p e below _ (sF s₁ m 60 #[iv p1, iv p2, iv p3, iv p4, iv p5, iv runs1, iv sat1, iv runs2, .unset, .unset, .unset, .unset, .unset, .unset, .unset, .unset] [(.int runs2), (.int sat1)])
      obtain ⟨_, _, ⟨T3, L3, k3, n3⟩, -, X3, ⟨Lc3, hQ3, l3, y3, z3⟩, st3⟩ := Jvm.LawKit.callS X0 hx (y := (⟨"java/lang/Math", "min", "(II)I"⟩ : MethodName)) hown (mvT hZ (hw _ (List.mem_of_getElem? (i := 22) rfl))) (mvT hZ (hw _ (List.mem_of_getElem? (i := 23) rfl))) (mvT hZ (hw _ (List.mem_of_getElem? (i := 24) rfl))) (mvT hZ (hw _ (List.mem_of_getElem? (i := 25) rfl))) (by decide) (backOf (W := 0) (rmMin l Z a0 hw [] sat1 runs2  h0 n0 Z0 ) hZ (hw _ (List.mem_of_getElem? (i := 25) rfl)) (hw _ (List.mem_of_getElem? (i := 24) rfl)) (by decide) (by decide)) (g := (mkF m 60 #[iv p1, iv p2, iv p3, iv p4, iv p5, iv runs1, iv sat1, iv runs2, .unset, .unset, .unset, .unset, .unset, .unset, .unset, .unset] [(.int runs2), (.int sat1)])) rfl (by rw [hml]; rfl) (argsL := [(.int sat1), (.int runs2)]) (rest := []) (lenOf pd__28II_29I rfl) rfl (by show 2 * 0 + _ ≤ _; exact Nat.le_of_eq rfl) (hb hby at_60) (fun _ _ => ⟨rfl, e0, (by decide : 0 + 0 ≤ _), (by decide : 0 + 0 ≤ _)⟩)
      dsimp only [Pt.U, Pt.locs, Pt.cells, Pt.slots] at X3 l3 y3 z3 st3 hQ3
      subst l3 y3 z3
      obtain ⟨rfl, N3q, e3⟩ := hQ3
      have N3 := Fr.app N0 N3q
      refine Goes.step ?_ st3
      show Goes p e below _ (sF T3 m 63 #[iv p1, iv p2, iv p3, iv p4, iv p5, iv runs1, iv sat1, iv runs2, .unset, .unset, .unset, .unset, .unset, .unset, .unset, .unset] [(.int (minV sat1 runs2))])
      refine Goes.step ?_ (fun _ k => XS.goto X3.here hx rfl (pc0 := 63) (pc' := 79) rfl (hb hby at_63) (by decide) (by decide) k)
      show Goes p e below _ (sF T3 m 79 #[iv p1, iv p2, iv p3, iv p4, iv p5, iv runs1, iv sat1, iv runs2, .unset, .unset, .unset, .unset, .unset, .unset, .unset, .unset] [(.int (minV sat1 runs2))])
      refine Goes.step ?_ (fun _ k => XS.istore X3.here hx rfl (hb hby at_79) rfl (l' := #[iv p1, iv p2, iv p3, iv p4, iv p5, iv runs1, iv sat1, iv runs2, iv (minV sat1 runs2), .unset, .unset, .unset, .unset, .unset, .unset, .unset]) rfl k)
      show Goes p e below _ (sF T3 m 81 #[iv p1, iv p2, iv p3, iv p4, iv p5, iv runs1, iv sat1, iv runs2, iv (minV sat1 runs2), .unset, .unset, .unset, .unset, .unset, .unset, .unset] [])
      have hs2 : ¬ (minV sat1 runs2) < 0 ∧ ¬ runs2 < (minV sat1 runs2) := own_min sat1 runs2 hs1.1 hr2
      obtain ⟨sat2, qsat2⟩ : ∃ z, z = (minV sat1 runs2) := ⟨_, rfl⟩
      rw [← qsat2] at hs2 ⊢
      show Goes p e below _ (sF T3 m 81 #[iv p1, iv p2, iv p3, iv p4, iv p5, iv runs1, iv sat1, iv runs2, iv sat2, .unset, .unset, .unset, .unset, .unset, .unset, .unset] [])
      exact tail81 p1 p2 p3 p4 p5 runs1 sat1 runs2 sat2 cc cl X3 hx hZ hw hby hlk hret hml hown e3 N3 Z0 O0 S_high S_cache Ar_cc Sz_cc Hel hr1 hs1.1 hs1.2 hr2 hs2.1 hs2.2
  · refine Goes.step ?_ (fun _ k => XS.ifNo X0.here hx rfl (hb hby at_30) rfl ((if0 _ _).trans (feq hc30_1).1) k)
    show Goes p e below _ (sF s₁ m 33 #[iv p1, iv p2, iv p3, iv p4, iv p5, iv runs1, iv sat1, .unset, .unset, .unset, .unset, .unset, .unset, .unset, .unset, .unset] [])
    refine Goes.step ?_ (fun _ k => XS.iload X0.here hx rfl (hb hby at_33) rfl  k)
    show Goes p e below _ (sF s₁ m 35 #[iv p1, iv p2, iv p3, iv p4, iv p5, iv runs1, iv sat1, .unset, .unset, .unset, .unset, .unset, .unset, .unset, .unset, .unset] [(.int runs1)])
    refine Goes.step ?_ (fun _ k => XS.goto X0.here hx rfl (pc0 := 35) (pc' := 47) rfl (hb hby at_35) (by decide) (by decide) k)
    show Goes p e below _ (sF s₁ m 47 #[iv p1, iv p2, iv p3, iv p4, iv p5, iv runs1, iv sat1, .unset, .unset, .unset, .unset, .unset, .unset, .unset, .unset, .unset] [(.int runs1)])
    refine Goes.step ?_ (fun _ k => XS.istore X0.here hx rfl (hb hby at_47) rfl (l' := #[iv p1, iv p2, iv p3, iv p4, iv p5, iv runs1, iv sat1, iv runs1, .unset, .unset, .unset, .unset, .unset, .unset, .unset, .unset]) rfl k)
    show Goes p e below _ (sF s₁ m 49 #[iv p1, iv p2, iv p3, iv p4, iv p5, iv runs1, iv sat1, iv runs1, .unset, .unset, .unset, .unset, .unset, .unset, .unset, .unset] [])
    have hr2 : ¬ runs1 < 1 := hr1
    refine Goes.step ?_ (fun _ k => XS.iload X0.here hx rfl (hb hby at_49) rfl  k)
    show Goes p e below _ (sF s₁ m 51 #[iv p1, iv p2, iv p3, iv p4, iv p5, iv runs1, iv sat1, iv runs1, .unset, .unset, .unset, .unset, .unset, .unset, .unset, .unset] [(.int p5)])
    refine Goes.step ?_ (fun _ k => XS.iconst X0.here hx rfl (hb hby at_51) k)
    show Goes p e below _ (sF s₁ m 52 #[iv p1, iv p2, iv p3, iv p4, iv p5, iv runs1, iv sat1, iv runs1, .unset, .unset, .unset, .unset, .unset, .unset, .unset, .unset] [(.int (2 : Int32)), (.int p5)])
    refine Goes.step ?_ (fun _ k => XS.iand X0.here hx rfl (hb hby at_52) rfl k)
    show Goes p e below _ (sF s₁ m 53 #[iv p1, iv p2, iv p3, iv p4, iv p5, iv runs1, iv sat1, iv runs1, .unset, .unset, .unset, .unset, .unset, .unset, .unset, .unset] [(.int (p5 &&& (2 : Int32)))])
    by_cases hc53_4 : (p5 &&& (2 : Int32)) = (0 : Int32)
    · refine Goes.step ?_ (fun _ k => XS.ifYes X0.here hx rfl (pc0 := 53) (pc' := 66) rfl (hb hby at_53) rfl ((if0 _ _).trans (teq hc53_4).1) (by decide) (by decide) k)
      show Goes p e below _ (sF s₁ m 66 #[iv p1, iv p2, iv p3, iv p4, iv p5, iv runs1, iv sat1, iv runs1, .unset, .unset, .unset, .unset, .unset, .unset, .unset, .unset] [])
      refine Goes.step ?_ (fun _ k => XS.iloadN X0.here hx rfl (hb hby at_66) rfl  k)
      show Goes p e below _ (sF s₁ m 67 #[iv p1, iv p2, iv p3, iv p4, iv p5, iv runs1, iv sat1, iv runs1, .unset, .unset, .unset, .unset, .unset, .unset, .unset, .unset] [(.int p4)])
      refine Goes.step ?_ (fun _ k => XS.i2l X0.here hx rfl (hb hby at_67) rfl k)
      show Goes p e below _ (sF s₁ m 68 #[iv p1, iv p2, iv p3, iv p4, iv p5, iv runs1, iv sat1, iv runs1, .unset, .unset, .unset, .unset, .unset, .unset, .unset, .unset] [(.long (p4.toInt64))])
      refine Goes.step ?_ (fun _ k => X0.ldc2J hx hown (mvT hZ (hw _ (List.mem_of_getElem? (i := 1) rfl))) rfl (hb hby at_68) k)
      show Goes p e below _ (sF s₁ m 71 #[iv p1, iv p2, iv p3, iv p4, iv p5, iv runs1, iv sat1, iv runs1, .unset, .unset, .unset, .unset, .unset, .unset, .unset, .unset] [(.long (2147483647 : Int64)), (.long (p4.toInt64))])
      refine Goes.step ?_ (fun _ k => XS.land X0.here hx rfl (hb hby at_71) rfl k)
      show Goes p e below _ (sF s₁ m 72 #[iv p1, iv p2, iv p3, iv p4, iv p5, iv runs1, iv sat1, iv runs1, .unset, .unset, .unset, .unset, .unset, .unset, .unset, .unset] [(.long ((p4.toInt64) &&& (2147483647 : Int64)))])
      refine Goes.step ?_ (fun _ k => XS.iload X0.here hx rfl (hb hby at_72) rfl  k)
      show Goes p e below _ (sF s₁ m 74 #[iv p1, iv p2, iv p3, iv p4, iv p5, iv runs1, iv sat1, iv runs1, .unset, .unset, .unset, .unset, .unset, .unset, .unset, .unset] [(.int runs1), (.long ((p4.toInt64) &&& (2147483647 : Int64)))])
      refine Goes.step ?_ (fun _ k => XS.i2l X0.here hx rfl (hb hby at_74) rfl k)
      show Goes p e below _ (sF s₁ m 75 #[iv p1, iv p2, iv p3, iv p4, iv p5, iv runs1, iv sat1, iv runs1, .unset, .unset, .unset, .unset, .unset, .unset, .unset, .unset] [(.long (runs1.toInt64)), (.long ((p4.toInt64) &&& (2147483647 : Int64)))])
      refine Goes.step ?_ (fun _ k => XS.lconst X0.here hx rfl (hb hby at_75) k)
      show Goes p e below _ (sF s₁ m 76 #[iv p1, iv p2, iv p3, iv p4, iv p5, iv runs1, iv sat1, iv runs1, .unset, .unset, .unset, .unset, .unset, .unset, .unset, .unset] [(.long (1 : Int64)), (.long (runs1.toInt64)), (.long ((p4.toInt64) &&& (2147483647 : Int64)))])
      refine Goes.step ?_ (fun _ k => XS.ladd X0.here hx rfl (hb hby at_76) rfl k)
      show Goes p e below _ (sF s₁ m 77 #[iv p1, iv p2, iv p3, iv p4, iv p5, iv runs1, iv sat1, iv runs1, .unset, .unset, .unset, .unset, .unset, .unset, .unset, .unset] [(.long ((runs1.toInt64) + (1 : Int64))), (.long ((p4.toInt64) &&& (2147483647 : Int64)))])
      refine Goes.step ?_ (fun _ k => own_lrem X0 hx rfl (hb hby at_77) rfl (own_den runs1 hr2).1 k)
      show Goes p e below _ (sF s₁ m 78 #[iv p1, iv p2, iv p3, iv p4, iv p5, iv runs1, iv sat1, iv runs1, .unset, .unset, .unset, .unset, .unset, .unset, .unset, .unset] [(.long (((p4.toInt64) &&& (2147483647 : Int64)) % ((runs1.toInt64) + (1 : Int64))))])
      refine Goes.step ?_ (fun _ k => XS.l2i X0.here hx rfl (hb hby at_78) rfl k)
      show Goes p e below _ (sF s₁ m 79 #[iv p1, iv p2, iv p3, iv p4, iv p5, iv runs1, iv sat1, iv runs1, .unset, .unset, .unset, .unset, .unset, .unset, .unset, .unset] [(.int ((((p4.toInt64) &&& (2147483647 : Int64)) % ((runs1.toInt64) + (1 : Int64))).toInt32))])
      refine Goes.step ?_ (fun _ k => XS.istore X0.here hx rfl (hb hby at_79) rfl (l' := #[iv p1, iv p2, iv p3, iv p4, iv p5, iv runs1, iv sat1, iv runs1, iv ((((p4.toInt64) &&& (2147483647 : Int64)) % ((runs1.toInt64) + (1 : Int64))).toInt32), .unset, .unset, .unset, .unset, .unset, .unset, .unset]) rfl k)
      show Goes p e below _ (sF s₁ m 81 #[iv p1, iv p2, iv p3, iv p4, iv p5, iv runs1, iv sat1, iv runs1, iv ((((p4.toInt64) &&& (2147483647 : Int64)) % ((runs1.toInt64) + (1 : Int64))).toInt32), .unset, .unset, .unset, .unset, .unset, .unset, .unset] [])
      have hs2 : ¬ ((((p4.toInt64) &&& (2147483647 : Int64)) % ((runs1.toInt64) + (1 : Int64))).toInt32) < 0 ∧ ¬ runs1 < ((((p4.toInt64) &&& (2147483647 : Int64)) % ((runs1.toInt64) + (1 : Int64))).toInt32) := own_sat p4 runs1 hr2
      obtain ⟨sat2, qsat2⟩ : ∃ z, z = ((((p4.toInt64) &&& (2147483647 : Int64)) % ((runs1.toInt64) + (1 : Int64))).toInt32) := ⟨_, rfl⟩
      rw [← qsat2] at hs2 ⊢
      show Goes p e below _ (sF s₁ m 81 #[iv p1, iv p2, iv p3, iv p4, iv p5, iv runs1, iv sat1, iv runs1, iv sat2, .unset, .unset, .unset, .unset, .unset, .unset, .unset] [])
      exact tail81 p1 p2 p3 p4 p5 runs1 sat1 runs1 sat2 cc cl X0 hx hZ hw hby hlk hret hml hown e0 N0 Z0 O0 S_high S_cache Ar_cc Sz_cc Hel hr1 hs1.1 hs1.2 hr2 hs2.1 hs2.2
    · refine Goes.step ?_ (fun _ k => XS.ifNo X0.here hx rfl (hb hby at_53) rfl ((if0 _ _).trans (feq hc53_4).1) k)
      show Goes p e below _ (sF s₁ m 56 #[iv p1, iv p2, iv p3, iv p4, iv p5, iv runs1, iv sat1, iv runs1, .unset, .unset, .unset, .unset, .unset, .unset, .unset, .unset] [])
      refine Goes.step ?_ (fun _ k => XS.iload X0.here hx rfl (hb hby at_56) rfl  k)
      show Goes p e below _ (sF s₁ m 58 #[iv p1, iv p2, iv p3, iv p4, iv p5, iv runs1, iv sat1, iv runs1, .unset, .unset, .unset, .unset, .unset, .unset, .unset, .unset] [(.int sat1)])
      refine Goes.step ?_ (fun _ k => XS.iload X0.here hx rfl (hb hby at_58) rfl  k)
      show Goes p e below _ (sF s₁ m 60 #[iv p1, iv p2, iv p3, iv p4, iv p5, iv runs1, iv sat1, iv runs1, .unset, .unset, .unset, .unset, .unset, .unset, .unset, .unset] [(.int runs1), (.int sat1)])
      obtain ⟨_, _, ⟨T5, L5, k5, n5⟩, -, X5, ⟨Lc5, hQ5, l5, y5, z5⟩, st5⟩ := Jvm.LawKit.callS X0 hx (y := (⟨"java/lang/Math", "min", "(II)I"⟩ : MethodName)) hown (mvT hZ (hw _ (List.mem_of_getElem? (i := 22) rfl))) (mvT hZ (hw _ (List.mem_of_getElem? (i := 23) rfl))) (mvT hZ (hw _ (List.mem_of_getElem? (i := 24) rfl))) (mvT hZ (hw _ (List.mem_of_getElem? (i := 25) rfl))) (by decide) (backOf (W := 0) (rmMin l Z a0 hw [] sat1 runs1  h0 n0 Z0 ) hZ (hw _ (List.mem_of_getElem? (i := 25) rfl)) (hw _ (List.mem_of_getElem? (i := 24) rfl)) (by decide) (by decide)) (g := (mkF m 60 #[iv p1, iv p2, iv p3, iv p4, iv p5, iv runs1, iv sat1, iv runs1, .unset, .unset, .unset, .unset, .unset, .unset, .unset, .unset] [(.int runs1), (.int sat1)])) rfl (by rw [hml]; rfl) (argsL := [(.int sat1), (.int runs1)]) (rest := []) (lenOf pd__28II_29I rfl) rfl (by show 2 * 0 + _ ≤ _; exact Nat.le_of_eq rfl) (hb hby at_60) (fun _ _ => ⟨rfl, e0, (by decide : 0 + 0 ≤ _), (by decide : 0 + 0 ≤ _)⟩)
      dsimp only [Pt.U, Pt.locs, Pt.cells, Pt.slots] at X5 l5 y5 z5 st5 hQ5
      subst l5 y5 z5
      obtain ⟨rfl, N5q, e5⟩ := hQ5
      have N5 := Fr.app N0 N5q
      refine Goes.step ?_ st5
      show Goes p e below _ (sF T5 m 63 #[iv p1, iv p2, iv p3, iv p4, iv p5, iv runs1, iv sat1, iv runs1, .unset, .unset, .unset, .unset, .unset, .unset, .unset, .unset] [(.int (minV sat1 runs1))])
      refine Goes.step ?_ (fun _ k => XS.goto X5.here hx rfl (pc0 := 63) (pc' := 79) rfl (hb hby at_63) (by decide) (by decide) k)
      show Goes p e below _ (sF T5 m 79 #[iv p1, iv p2, iv p3, iv p4, iv p5, iv runs1, iv sat1, iv runs1, .unset, .unset, .unset, .unset, .unset, .unset, .unset, .unset] [(.int (minV sat1 runs1))])
      refine Goes.step ?_ (fun _ k => XS.istore X5.here hx rfl (hb hby at_79) rfl (l' := #[iv p1, iv p2, iv p3, iv p4, iv p5, iv runs1, iv sat1, iv runs1, iv (minV sat1 runs1), .unset, .unset, .unset, .unset, .unset, .unset, .unset]) rfl k)
      show Goes p e below _ (sF T5 m 81 #[iv p1, iv p2, iv p3, iv p4, iv p5, iv runs1, iv sat1, iv runs1, iv (minV sat1 runs1), .unset, .unset, .unset, .unset, .unset, .unset, .unset] [])
      have hs2 : ¬ (minV sat1 runs1) < 0 ∧ ¬ runs1 < (minV sat1 runs1) := own_min sat1 runs1 hs1.1 hr2
      obtain ⟨sat2, qsat2⟩ : ∃ z, z = (minV sat1 runs1) := ⟨_, rfl⟩
      rw [← qsat2] at hs2 ⊢
      show Goes p e below _ (sF T5 m 81 #[iv p1, iv p2, iv p3, iv p4, iv p5, iv runs1, iv sat1, iv runs1, iv sat2, .unset, .unset, .unset, .unset, .unset, .unset, .unset] [])
      exact tail81 p1 p2 p3 p4 p5 runs1 sat1 runs1 sat2 cc cl X5 hx hZ hw hby hlk hret hml hown e5 N5 Z0 O0 S_high S_cache Ar_cc Sz_cc Hel hr1 hs1.1 hs1.2 hr2 hs2.1 hs2.2
set_option maxRecDepth 65536 in
set_option maxHeartbeats 40000000 in
theorem comes_1 {Post : Tables → Env → Array Value → State → Outcome → State → Prop} (hpost : ∀ tb e args s v u, (limb_1_1.after args s (.returned v) u = true ∧ limb_1_2.after args s (.returned v) u = true ∧ True) → FrameEnd s (.returned v) u (Jvm.fieldLocs frame_1_writes args s ++ Jvm.arrayLocs frame_1_arrays args s ++ Jvm.staticLocs frame_1_statics s) 16 128 → Post tb e args s (.returned v) u) :
    ArmFor flags0 classFile x code maxLocals ret World_1 tables_1 room_1 Calls_1 rest_1 Pre_1 Post := by
  intro l hfl _ _ p e ha hc hk s m args below hf hA hF happ hP
  obtain ⟨hcalls, hrest, hpre⟩ := hP
  obtain ⟨-, -, -, hnamed, -, -, -, hat⟩ := (Spec.applies_iff hf).mp happ
  obtain ⟨hg, hn⟩ := and_e (Cond.before_iff.mp (show (Jvm.Cond.and given_1 narrow_1).before args s = true from hpre))
  obtain ⟨hcnt, g0⟩ := and_e hg
  obtain ⟨ga0, g1⟩ := and_e g0
  obtain ⟨ga1, g2⟩ := and_e g1
  obtain ⟨ga2, g3⟩ := and_e g2
  obtain ⟨ga3, g4⟩ := and_e g3
  have ga4 := g4
  obtain ⟨w0, w1, w2, w3, w4, rfl⟩ : ∃ w0 w1 w2 w3 w4 : Value, args = #[w0, w1, w2, w3, w4] := by
    have hs : args.size = 5 := by simpa [Cond.value, given_1] using hcnt
    obtain ⟨L⟩ := args
    match L, hs with
    | [w0, w1, w2, w3, w4], _ => exact ⟨w0, w1, w2, w3, w4, rfl⟩
  have hw := fun d (hd : d ∈ tables_1) => atoms_spec (ws := Jvm.Cond.code x code maxLocals ret :: tables_1) hat d (List.mem_cons_of_mem _ hd)
  have hfit : Fit s := fun {y c} hc i hi => by
    obtain ⟨ha, rfl⟩ := Array.getElem?_eq_some_iff.mp hc
    have q := List.all_eq_true.mp ((Array.all_eq_true_iff_forall_mem.mp hF) _ (Array.getElem_mem ha)) i (List.mem_range.mpr hi)
    simpa [Array.getElem?_eq_getElem hi] using q
  obtain ⟨hsets, hown0⟩ := atoms_of _ (rest_1_c_eq ▸ (show rest_1_c.before _ s = true from hrest))
  obtain ⟨i0, ei0⟩ := is_v ga0
  obtain rfl : w0 = (.int i0) := Option.some.inj ei0
  obtain ⟨i1, ei1⟩ := is_v ga1
  obtain rfl : w1 = (.int i1) := Option.some.inj ei1
  obtain ⟨i2, ei2⟩ := is_v ga2
  obtain rfl : w2 = (.int i2) := Option.some.inj ei2
  obtain ⟨i3, ei3⟩ := is_v ga3
  obtain rfl : w3 = (.int i3) := Option.some.inj ei3
  obtain ⟨i4, ei4⟩ := is_v ga4
  obtain rfl : w4 = (.int i4) := Option.some.inj ei4
  have vhigh := own_eqI (Cond.before_iff.mp (hsets _ (List.mem_of_getElem? (i := 3) rfl)))
  have Shigh := Sta.start vhigh (Or.inl (hsets _ (List.mem_of_getElem? (i := 1) rfl)))
  obtain ⟨cc, vcache⟩ := arr_v (Cond.before_iff.mp (hsets _ (List.mem_of_getElem? (i := 4) rfl)))
  have Scache := Sta.start vcache (Or.inr ⟨(hw _ (List.mem_of_getElem? (i := 31) rfl)), (hsets _ (List.mem_of_getElem? (i := 2) rfl))⟩)
  obtain ⟨cl, Arc⟩ := Arr.start vcache (Cond.before_iff.mp (hsets _ (List.mem_of_getElem? (i := 4) rfl)))
  have harr : s.arrayAt? cc = some cl := Arr.fin (Vm.Alike.refl _) Arc
  have vlen := own_eqI (Cond.before_iff.mp (hsets _ (List.mem_of_getElem? (i := 6) rfl)))
  have Szc : cl.slots.size = 256 := own_len vcache harr vlen
  have Helc : ∀ i, i < 256 → ∃ x, cl.slots[i]? = some (.ref x) ∧ Exa s s.heap x "java/lang/Integer" := fun i hi => by
    obtain ⟨q1, -⟩ := and_e (Cond.all_elim vcache harr (Cond.before_iff.mp (hsets _ (List.mem_of_getElem? (i := 7) rfl))) i (by rw [Szc]; exact hi))
    exact own_elem vcache harr (by rw [Szc]; exact hi) (by rw [Szc]; decide) q1
  obtain ⟨n, o, h1, h2, h3, _, L, rfl, ⟨rfl, N⟩, hq⟩ := rm0 l s _ hw tables_1 i0 i1 i2 i3 i4 cc cl s.heap s.heap.size (Nat.le_refl _) (Old.start s) Shigh Scache Arc Szc Helc p e ha hc hk s m _ below hf ((Spec.applies_iff_loose hf).mp happ).1 ⟨rfl, State.Warmed39.refl s, rfl⟩ trivial
  refine ⟨n, _, h1, h2, h3, hpost _ _ _ _ _ _ ⟨Cond.after_iff.mpr rfl, Cond.after_iff.mpr (eq_i res_at (Term.int_eval (1)) rfl), trivial⟩ ⟨hq.1, hq.2.1, (hq.2.2.sift fun y hy => Or.inr (N y hy)).mono (by decide) (by decide)⟩⟩
theorem main_1_1 : Claimed_1_1 := comes_1 fun _ _ _ _ _ _ h hF => ⟨h.1, hF⟩
theorem main_1_2 : Claimed_1_2 := comes_1 fun _ _ _ _ _ _ h hF => ⟨h.2.1, hF⟩
end Jvm.Pilot.@@N@@
namespace Jvm.Pilot.@@N@@
open Jvm Jvm.ClassFile Sem Op Lib Jvm.Free Jvm.Stand Jvm.Pilot.@@N@@.Jvm.D
/-! MADE BY PROGRAM (witnessworld.py) out of the Statement's table words and the real class files: 17 classes; the members and pool entries that the words name. The judged class is class 1, her method 1. -/
namespace start1
open Jvm.ClassFile
def u (s : String) : CpInfo := .utf8 (stringToUtf16 s)
/-- a pool by its gaps: so many unusable entries, then the entry; so many at the end -/
def gap : Nat → List CpInfo → List CpInfo
  | 0, r => r
  | n + 1, r => .unusable :: gap n r
def poolList (es : List (Nat × CpInfo)) (last : Nat) : List CpInfo := es.foldr (fun e r => gap e.1 (e.2 :: r)) (gap last [])
def pool (es : List (Nat × CpInfo)) (last : Nat) : Array CpInfo := ⟨poolList es last⟩
def fileOf (pool : Array CpInfo) (this : Nat) (attrs : Array Attribute := #[]) (ms : Array MethodInfo := #[]) (fl : Nat := 33) (sup : Nat := 0) (ifs : Array Nat := #[]) (fds : Array FieldInfo := #[]) : ClassFile where
  minorVersion := 0
  majorVersion := 65
  constantPool := pool
  accessFlags := fl
  thisClass := this
  superClass := sup
  interfaces := ifs
  fields := fds
  methods := ms
  attributes := attrs
def plain (name : String) (sup : Option ClassId) : Class where
  name := name
  kind := .ordinary
  loader := none
  accessFlags := 33
  super := sup
  interfaces := #[]
  cf := none
  fields := #[]
  methods := #[]
  instanceTypes := #[]
  staticTypes := #[]
  resolved := #[]
  callSites := []
  init := .initialized
  statics := none
  mirror := none

def pool0 : Array CpInfo := pool [(5, u "<init>"), (0, u "()V"), (1, .class_ 10), (1, u "java/lang/Object")] 113

def k0c0 : Code := { maxStack := 0, maxLocals := 1, code := object_method_1_code, exceptionTable := #[], attributes := #[] }
def k0m0 : Method := { name := "<init>", desc := "()V", sig := { parameters := [], returnType := none }, accessFlags := 1, code := some k0c0 }
/-- java/lang/Object -/
def k0 : Class := { plain "java/lang/Object" none with
  accessFlags := 33
  interfaces := #[]
  cf := some (fileOf pool0 8 #[] #[{ accessFlags := 1, nameIndex := 5, descriptorIndex := 6, attributes := #[] }] 33 0 #[] #[])
  fields := #[]
  methods := #[k0m0]
  instanceTypes := #[]
  staticTypes := #[]
  resolved := Array.replicate 124 none
  statics := none }

def pool1 : Array CpInfo := pool [(2, .class_ 4), (1, u "java/lang/Object"), (0, u "<init>"), (0, u "()V"), (0, .integer 2147483647), (0, .long 2147483647), (1, .methodref 11 12), (0, .class_ 13), (0, .nameAndType 14 15), (0, u "java/lang/Math"), (0, u "min"), (0, u "(II)I"), (0, .class_ 17), (0, u "com/example/opicina/opicina/semantics/Estimate"), (0, .methodref 16 19), (0, .nameAndType 5 20), (0, u "(II)V"), (0, .methodref 16 22), (0, .nameAndType 23 24), (0, u "equals"), (0, u "(Ljava/lang/Object;)Z"), (0, .methodref 26 27), (0, .class_ 28), (0, .nameAndType 29 30), (0, u "java/lang/Integer"), (0, u "valueOf"), (0, u "(I)Ljava/lang/Integer;"), (0, .class_ 32), (0, u "com/example/opicina/opicina/semantics/EstimateEqualsPinLaw"), (2, u "law"), (0, u "(IIIII)Z")] 3

def k1m0 : Method := { name := "<init>", desc := "()V", sig := { parameters := [], returnType := none }, accessFlags := 2, code := none }
def k1c1 : Code := { maxStack := 6, maxLocals := 16, code := code, exceptionTable := #[], attributes := #[] }
def k1m1 : Method := { name := "law", desc := "(IIIII)Z", sig := { parameters := [.int, .int, .int, .int, .int], returnType := some .boolean }, accessFlags := 9, code := some k1c1 }
/-- com/example/opicina/opicina/semantics/EstimateEqualsPinLaw -/
def k1 : Class := { plain "com/example/opicina/opicina/semantics/EstimateEqualsPinLaw" (some 0) with
  accessFlags := 49
  interfaces := #[]
  cf := some (fileOf pool1 31 #[] #[{ accessFlags := 2, nameIndex := 5, descriptorIndex := 6, attributes := #[] }, { accessFlags := 9, nameIndex := 35, descriptorIndex := 36, attributes := #[] }] 49 2 #[] #[])
  fields := #[]
  methods := #[k1m0, k1m1]
  instanceTypes := #[]
  staticTypes := #[]
  resolved := Array.replicate 40 none
  statics := none }

def pool2 : Array CpInfo := pool [(1, .methodref 2 3), (0, .class_ 4), (0, .nameAndType 5 6), (0, u "java/lang/Object"), (0, u "<init>"), (0, u "()V"), (9, .fieldref 17 18), (0, .class_ 19), (0, .nameAndType 20 21), (0, u "com/example/opicina/opicina/semantics/Estimate"), (0, u "satisfied"), (0, u "I"), (0, .fieldref 17 23), (0, .nameAndType 24 21), (0, u "runs"), (47, u "Z_95"), (0, u "D"), (1, u "(II)V"), (7, u "equals"), (0, u "(Ljava/lang/Object;)Z")] 24

def k2c0 : Code := { maxStack := 4, maxLocals := 3, code := prog_101_method_1_code, exceptionTable := #[], attributes := #[] }
def k2m0 : Method := { name := "<init>", desc := "(II)V", sig := { parameters := [.int, .int], returnType := none }, accessFlags := 1, code := some k2c0 }
def k2c1 : Code := { maxStack := 2, maxLocals := 3, code := prog_101_method_9_code, exceptionTable := #[], attributes := #[] }
def k2m1 : Method := { name := "equals", desc := "(Ljava/lang/Object;)Z", sig := { parameters := [(.object "java/lang/Object")], returnType := some .boolean }, accessFlags := 1, code := some k2c1 }
/-- com/example/opicina/opicina/semantics/Estimate -/
def k2 : Class := { plain "com/example/opicina/opicina/semantics/Estimate" (some 0) with
  accessFlags := 33
  interfaces := #[]
  cf := some (fileOf pool2 17 #[] #[{ accessFlags := 1, nameIndex := 5, descriptorIndex := 75, attributes := #[] }, { accessFlags := 1, nameIndex := 83, descriptorIndex := 84, attributes := #[] }] 33 2 #[] #[{ accessFlags := 26, nameIndex := 72, descriptorIndex := 73, attributes := #[] }, { accessFlags := 18, nameIndex := 20, descriptorIndex := 21, attributes := #[] }, { accessFlags := 18, nameIndex := 24, descriptorIndex := 21, attributes := #[] }])
  fields := #[{ name := "Z_95", type := .double, accessFlags := 26, slot := 0, constantValue := 0 }, { name := "satisfied", type := .int, accessFlags := 18, slot := 0, constantValue := 0 }, { name := "runs", type := .int, accessFlags := 18, slot := 1, constantValue := 0 }]
  methods := #[k2m0, k2m1]
  instanceTypes := #[.int, .int]
  staticTypes := #[.double]
  resolved := Array.replicate 109 none
  statics := none }

def pool3 : Array CpInfo := pool [(1, .class_ 2), (0, u "java/lang/Math"), (1, .class_ 6), (1, u "java/lang/Object"), (0, u "<init>"), (0, u "()V"), (89, .class_ 100), (1, u "java/lang/Math$RandomNumberGeneratorHolder"), (71, u "negativeZeroFloatBits"), (0, u "J"), (2, u "negativeZeroDoubleBits"), (24, u "min"), (43, u "$assertionsDisabled"), (0, u "Z"), (88, u "(II)I"), (2, u "twoToTheDoubleScaleDown"), (0, u "D"), (4, u "twoToTheDoubleScaleUp"), (9, u "E"), (3, u "PI"), (2, u "TAU"), (2, u "DEGREES_TO_RADIANS"), (0, u "RADIANS_TO_DEGREES")] 94

def k3m0 : Method := { name := "<init>", desc := "()V", sig := { parameters := [], returnType := none }, accessFlags := 2, code := none }
def k3c1 : Code := { maxStack := 2, maxLocals := 2, code := jdk_29_method_69_code, exceptionTable := #[], attributes := #[] }
def k3m1 : Method := { name := "min", desc := "(II)I", sig := { parameters := [.int, .int], returnType := some .int }, accessFlags := 9, code := some k3c1 }
/-- java/lang/Math -/
def k3 : Class := { plain "java/lang/Math" (some 0) with
  accessFlags := 49
  interfaces := #[]
  cf := some (fileOf pool3 1 #[.nestMembers #[98]] #[{ accessFlags := 2, nameIndex := 7, descriptorIndex := 8, attributes := #[] }, { accessFlags := 9, nameIndex := 201, descriptorIndex := 335, attributes := #[] }] 49 4 #[] #[{ accessFlags := 25, nameIndex := 354, descriptorIndex := 339, attributes := #[] }, { accessFlags := 25, nameIndex := 358, descriptorIndex := 339, attributes := #[] }, { accessFlags := 25, nameIndex := 361, descriptorIndex := 339, attributes := #[] }, { accessFlags := 26, nameIndex := 364, descriptorIndex := 339, attributes := #[] }, { accessFlags := 26, nameIndex := 365, descriptorIndex := 339, attributes := #[] }, { accessFlags := 26, nameIndex := 172, descriptorIndex := 173, attributes := #[] }, { accessFlags := 26, nameIndex := 176, descriptorIndex := 173, attributes := #[] }, { accessFlags := 8, nameIndex := 344, descriptorIndex := 339, attributes := #[] }, { accessFlags := 8, nameIndex := 338, descriptorIndex := 339, attributes := #[] }, { accessFlags := 4120, nameIndex := 245, descriptorIndex := 246, attributes := #[] }])
  fields := #[{ name := "E", type := .double, accessFlags := 25, slot := 0, constantValue := 0 }, { name := "PI", type := .double, accessFlags := 25, slot := 1, constantValue := 0 }, { name := "TAU", type := .double, accessFlags := 25, slot := 2, constantValue := 0 }, { name := "DEGREES_TO_RADIANS", type := .double, accessFlags := 26, slot := 3, constantValue := 0 }, { name := "RADIANS_TO_DEGREES", type := .double, accessFlags := 26, slot := 4, constantValue := 0 }, { name := "negativeZeroFloatBits", type := .long, accessFlags := 26, slot := 5, constantValue := 0 }, { name := "negativeZeroDoubleBits", type := .long, accessFlags := 26, slot := 6, constantValue := 0 }, { name := "twoToTheDoubleScaleUp", type := .double, accessFlags := 8, slot := 7, constantValue := 0 }, { name := "twoToTheDoubleScaleDown", type := .double, accessFlags := 8, slot := 8, constantValue := 0 }, { name := "$assertionsDisabled", type := .boolean, accessFlags := 4120, slot := 9, constantValue := 0 }]
  methods := #[k3m0, k3m1]
  instanceTypes := #[]
  staticTypes := #[.double, .double, .double, .double, .double, .long, .long, .double, .double, .boolean]
  resolved := Array.replicate 460 none
  statics := none }

def pool4 : Array CpInfo := pool [(1, .class_ 2), (0, u "java/io/Serializable"), (0, .class_ 4), (0, u "java/lang/Object")] 2

/-- java/io/Serializable -/
def k4 : Class := { plain "java/io/Serializable" (some 0) with
  accessFlags := 1537
  interfaces := #[]
  cf := some (fileOf pool4 1 #[] #[] 1537 3 #[] #[])
  fields := #[]
  methods := #[]
  instanceTypes := #[]
  staticTypes := #[]
  resolved := Array.replicate 7 none
  statics := none }

def pool5 : Array CpInfo := pool [(1, .methodref 2 3), (0, .class_ 4), (0, .nameAndType 5 6), (0, u "java/lang/Object"), (0, u "<init>"), (0, u "()V"), (1, .class_ 10), (1, u "java/lang/Number"), (2, .class_ 14), (0, u "java/io/Serializable"), (0, u "serialVersionUID"), (0, u "J")] 20

def k5c0 : Code := { maxStack := 1, maxLocals := 1, code := jdk_18_method_1_code, exceptionTable := #[], attributes := #[] }
def k5m0 : Method := { name := "<init>", desc := "()V", sig := { parameters := [], returnType := none }, accessFlags := 1, code := some k5c0 }
/-- java/lang/Number -/
def k5 : Class := { plain "java/lang/Number" (some 0) with
  accessFlags := 1057
  interfaces := #[4]
  cf := some (fileOf pool5 8 #[] #[{ accessFlags := 1, nameIndex := 5, descriptorIndex := 6, attributes := #[] }] 1057 2 #[13] #[{ accessFlags := 26, nameIndex := 15, descriptorIndex := 16, attributes := #[] }])
  fields := #[{ name := "serialVersionUID", type := .long, accessFlags := 26, slot := 0, constantValue := 0 }]
  methods := #[k5m0]
  instanceTypes := #[]
  staticTypes := #[.long]
  resolved := Array.replicate 37 none
  statics := none }

def pool6 : Array CpInfo := pool [(1, .class_ 2), (0, u "java/lang/Comparable"), (0, .class_ 4), (0, u "java/lang/Object")] 7

/-- java/lang/Comparable -/
def k6 : Class := { plain "java/lang/Comparable" (some 0) with
  accessFlags := 1537
  interfaces := #[]
  cf := some (fileOf pool6 1 #[] #[] 1537 3 #[] #[])
  fields := #[]
  methods := #[]
  instanceTypes := #[]
  staticTypes := #[]
  resolved := Array.replicate 12 none
  statics := none }

def pool7 : Array CpInfo := pool [(1, .class_ 2), (0, u "java/lang/constant/Constable"), (0, .class_ 4), (0, u "java/lang/Object")] 6

/-- java/lang/constant/Constable -/
def k7 : Class := { plain "java/lang/constant/Constable" (some 0) with
  accessFlags := 1537
  interfaces := #[]
  cf := some (fileOf pool7 1 #[] #[] 1537 3 #[] #[])
  fields := #[]
  methods := #[]
  instanceTypes := #[]
  staticTypes := #[]
  resolved := Array.replicate 11 none
  statics := none }

def pool8 : Array CpInfo := pool [(1, .class_ 2), (0, u "java/lang/constant/ConstantDesc"), (0, .class_ 4), (0, u "java/lang/Object")] 32

/-- java/lang/constant/ConstantDesc -/
def k8 : Class := { plain "java/lang/constant/ConstantDesc" (some 0) with
  accessFlags := 1537
  interfaces := #[]
  cf := some (fileOf pool8 1 #[] #[] 1537 3 #[] #[])
  fields := #[]
  methods := #[]
  instanceTypes := #[]
  staticTypes := #[]
  resolved := Array.replicate 37 none
  statics := none }

def pool9 : Array CpInfo := pool [(1, .class_ 2), (0, u "java/lang/Integer"), (16, u "digits"), (0, u "[C"), (46, u "<init>"), (17, u "DigitOnes"), (0, u "[B"), (2, u "DigitTens"), (10, .nameAndType 67 101), (0, u "()V"), (85, u "valueOf"), (0, u "(I)Ljava/lang/Integer;"), (0, .class_ 190), (0, u "java/lang/Integer$IntegerCache"), (0, .fieldref 189 192), (0, .nameAndType 193 194), (0, u "high"), (0, u "I"), (0, .fieldref 189 196), (0, .nameAndType 197 198), (0, u "cache"), (0, u "[Ljava/lang/Integer;"), (0, .methodref 1 200), (0, .nameAndType 67 201), (0, u "(I)V"), (0, .methodref 203 100), (0, .class_ 204), (0, u "java/lang/Number"), (0, .fieldref 1 206), (0, .nameAndType 207 194), (0, u "value"), (94, u "TYPE"), (0, u "Ljava/lang/Class;"), (0, .class_ 305), (0, u "java/lang/Comparable"), (0, .class_ 307), (0, u "java/lang/constant/Constable"), (0, .class_ 309), (0, u "java/lang/constant/ConstantDesc"), (0, u "MIN_VALUE"), (1, u "MAX_VALUE"), (3, u "SIZE"), (1, u "BYTES"), (1, u "serialVersionUID"), (0, u "J")] 131

def k9c0 : Code := { maxStack := 3, maxLocals := 1, code := jdk_33_method_22_code, exceptionTable := #[], attributes := #[] }
def k9m0 : Method := { name := "valueOf", desc := "(I)Ljava/lang/Integer;", sig := { parameters := [.int], returnType := some (.object "java/lang/Integer") }, accessFlags := 9, code := some k9c0 }
def k9c1 : Code := { maxStack := 2, maxLocals := 2, code := jdk_33_method_23_code, exceptionTable := #[], attributes := #[] }
def k9m1 : Method := { name := "<init>", desc := "(I)V", sig := { parameters := [.int], returnType := none }, accessFlags := 1, code := some k9c1 }
/-- java/lang/Integer -/
def k9 : Class := { plain "java/lang/Integer" (some 5) with
  accessFlags := 49
  interfaces := #[6, 7, 8]
  cf := some (fileOf pool9 1 #[.nestMembers #[189]] #[{ accessFlags := 9, nameIndex := 187, descriptorIndex := 188, attributes := #[] }, { accessFlags := 1, nameIndex := 67, descriptorIndex := 201, attributes := #[] }] 49 203 #[304, 306, 308] #[{ accessFlags := 25, nameIndex := 310, descriptorIndex := 194, attributes := #[] }, { accessFlags := 25, nameIndex := 312, descriptorIndex := 194, attributes := #[] }, { accessFlags := 25, nameIndex := 302, descriptorIndex := 303, attributes := #[] }, { accessFlags := 24, nameIndex := 19, descriptorIndex := 20, attributes := #[] }, { accessFlags := 24, nameIndex := 89, descriptorIndex := 86, attributes := #[] }, { accessFlags := 24, nameIndex := 85, descriptorIndex := 86, attributes := #[] }, { accessFlags := 18, nameIndex := 207, descriptorIndex := 194, attributes := #[] }, { accessFlags := 25, nameIndex := 316, descriptorIndex := 194, attributes := #[] }, { accessFlags := 25, nameIndex := 318, descriptorIndex := 194, attributes := #[] }, { accessFlags := 26, nameIndex := 320, descriptorIndex := 321, attributes := #[] }])
  fields := #[{ name := "MIN_VALUE", type := .int, accessFlags := 25, slot := 0, constantValue := 0 }, { name := "MAX_VALUE", type := .int, accessFlags := 25, slot := 1, constantValue := 0 }, { name := "TYPE", type := (.object "java/lang/Class"), accessFlags := 25, slot := 2, constantValue := 0 }, { name := "digits", type := (.array .char), accessFlags := 24, slot := 3, constantValue := 0 }, { name := "DigitTens", type := (.array .byte), accessFlags := 24, slot := 4, constantValue := 0 }, { name := "DigitOnes", type := (.array .byte), accessFlags := 24, slot := 5, constantValue := 0 }, { name := "value", type := .int, accessFlags := 18, slot := 0, constantValue := 0 }, { name := "SIZE", type := .int, accessFlags := 25, slot := 6, constantValue := 0 }, { name := "BYTES", type := .int, accessFlags := 25, slot := 7, constantValue := 0 }, { name := "serialVersionUID", type := .long, accessFlags := 26, slot := 8, constantValue := 0 }]
  methods := #[k9m0, k9m1]
  instanceTypes := #[.int]
  staticTypes := #[.int, .int, (.object "java/lang/Class"), (.array .char), (.array .byte), (.array .byte), .int, .int, .long]
  resolved := Array.replicate 453 none
  statics := none }

def pool10 : Array CpInfo := pool [(2, .class_ 4), (1, u "java/lang/Object"), (0, u "<init>"), (0, u "()V"), (0, .class_ 8), (0, u "java/lang/Integer"), (7, .class_ 18), (1, u "java/lang/Integer$IntegerCache"), (0, u "$assertionsDisabled"), (0, u "Z"), (26, u "high"), (0, u "I"), (8, u "archivedCache"), (0, u "[Ljava/lang/Integer;"), (12, u "cache"), (0, u "low")] 27

def k10m0 : Method := { name := "<init>", desc := "()V", sig := { parameters := [], returnType := none }, accessFlags := 2, code := none }
/-- java/lang/Integer$IntegerCache -/
def k10 : Class := { plain "java/lang/Integer$IntegerCache" (some 0) with
  accessFlags := 48
  interfaces := #[]
  cf := some (fileOf pool10 16 #[.nestHost 7] #[{ accessFlags := 2, nameIndex := 5, descriptorIndex := 6, attributes := #[] }] 48 2 #[] #[{ accessFlags := 24, nameIndex := 72, descriptorIndex := 48, attributes := #[] }, { accessFlags := 24, nameIndex := 47, descriptorIndex := 48, attributes := #[] }, { accessFlags := 24, nameIndex := 71, descriptorIndex := 58, attributes := #[] }, { accessFlags := 8, nameIndex := 57, descriptorIndex := 58, attributes := #[] }, { accessFlags := 4120, nameIndex := 19, descriptorIndex := 20, attributes := #[] }])
  fields := #[{ name := "low", type := .int, accessFlags := 24, slot := 0, constantValue := 0 }, { name := "high", type := .int, accessFlags := 24, slot := 1, constantValue := 0 }, { name := "cache", type := (.array (.object "java/lang/Integer")), accessFlags := 24, slot := 2, constantValue := 0 }, { name := "archivedCache", type := (.array (.object "java/lang/Integer")), accessFlags := 8, slot := 3, constantValue := 0 }, { name := "$assertionsDisabled", type := .boolean, accessFlags := 4120, slot := 4, constantValue := 0 }]
  methods := #[k10m0]
  instanceTypes := #[]
  staticTypes := #[.int, .int, (.array (.object "java/lang/Integer")), (.array (.object "java/lang/Integer")), .boolean]
  resolved := Array.replicate 100 none
  statics := some 0 }

def pool11 : Array CpInfo := pool [(1, u "java/lang/Cloneable"), (0, .class_ 1), (0, u "java/lang/Object"), (0, .class_ 3)] 3

/-- java/lang/Cloneable -/
def k11 : Class := { plain "java/lang/Cloneable" (some 0) with
  accessFlags := 1537
  interfaces := #[]
  cf := some (fileOf pool11 2 #[] #[] 1537 4 #[] #[])
  fields := #[]
  methods := #[]
  instanceTypes := #[]
  staticTypes := #[]
  resolved := Array.replicate 8 none
  statics := none }

/-- the primitive byte -/
def k12 : Class := { plain "byte" none with kind := .primitive 'B', accessFlags := 0x411 }
/-- [B -/
def k13 : Class := { plain "[B" (some 0) with kind := .array 12 .byte, interfaces := #[11, 4], accessFlags := 1041 }

/-- the primitive int -/
def k14 : Class := { plain "int" none with kind := .primitive 'I', accessFlags := 0x411 }
/-- [I -/
def k15 : Class := { plain "[I" (some 0) with kind := .array 14 .int, interfaces := #[11, 4], accessFlags := 1041 }

/-- [Ljava/lang/Integer; -/
def k16 : Class := { plain "[Ljava/lang/Integer;" (some 0) with kind := .array 9 (.object "java/lang/Integer"), interfaces := #[11, 4], accessFlags := 1041 }

def heap : Heap := #[{ cls := 10, slots := #[.int 0, .int 127, .ref 1, .null, .int 0], vm := .statics 10 },
  { cls := 16, slots := #[.ref 2, .ref 3, .ref 4, .ref 5, .ref 6, .ref 7, .ref 8, .ref 9, .ref 10, .ref 11, .ref 12, .ref 13, .ref 14, .ref 15, .ref 16, .ref 17, .ref 18, .ref 19, .ref 20, .ref 21, .ref 22, .ref 23, .ref 24, .ref 25, .ref 26, .ref 27, .ref 28, .ref 29, .ref 30, .ref 31, .ref 32, .ref 33, .ref 34, .ref 35, .ref 36, .ref 37, .ref 38, .ref 39, .ref 40, .ref 41, .ref 42, .ref 43, .ref 44, .ref 45, .ref 46, .ref 47, .ref 48, .ref 49, .ref 50, .ref 51, .ref 52, .ref 53, .ref 54, .ref 55, .ref 56, .ref 57, .ref 58, .ref 59, .ref 60, .ref 61, .ref 62, .ref 63, .ref 64, .ref 65, .ref 66, .ref 67, .ref 68, .ref 69, .ref 70, .ref 71, .ref 72, .ref 73, .ref 74, .ref 75, .ref 76, .ref 77, .ref 78, .ref 79, .ref 80, .ref 81, .ref 82, .ref 83, .ref 84, .ref 85, .ref 86, .ref 87, .ref 88, .ref 89, .ref 90, .ref 91, .ref 92, .ref 93, .ref 94, .ref 95, .ref 96, .ref 97, .ref 98, .ref 99, .ref 100, .ref 101, .ref 102, .ref 103, .ref 104, .ref 105, .ref 106, .ref 107, .ref 108, .ref 109, .ref 110, .ref 111, .ref 112, .ref 113, .ref 114, .ref 115, .ref 116, .ref 117, .ref 118, .ref 119, .ref 120, .ref 121, .ref 122, .ref 123, .ref 124, .ref 125, .ref 126, .ref 127, .ref 128, .ref 129, .ref 130, .ref 131, .ref 132, .ref 133, .ref 134, .ref 135, .ref 136, .ref 137, .ref 138, .ref 139, .ref 140, .ref 141, .ref 142, .ref 143, .ref 144, .ref 145, .ref 146, .ref 147, .ref 148, .ref 149, .ref 150, .ref 151, .ref 152, .ref 153, .ref 154, .ref 155, .ref 156, .ref 157, .ref 158, .ref 159, .ref 160, .ref 161, .ref 162, .ref 163, .ref 164, .ref 165, .ref 166, .ref 167, .ref 168, .ref 169, .ref 170, .ref 171, .ref 172, .ref 173, .ref 174, .ref 175, .ref 176, .ref 177, .ref 178, .ref 179, .ref 180, .ref 181, .ref 182, .ref 183, .ref 184, .ref 185, .ref 186, .ref 187, .ref 188, .ref 189, .ref 190, .ref 191, .ref 192, .ref 193, .ref 194, .ref 195, .ref 196, .ref 197, .ref 198, .ref 199, .ref 200, .ref 201, .ref 202, .ref 203, .ref 204, .ref 205, .ref 206, .ref 207, .ref 208, .ref 209, .ref 210, .ref 211, .ref 212, .ref 213, .ref 214, .ref 215, .ref 216, .ref 217, .ref 218, .ref 219, .ref 220, .ref 221, .ref 222, .ref 223, .ref 224, .ref 225, .ref 226, .ref 227, .ref 228, .ref 229, .ref 230, .ref 231, .ref 232, .ref 233, .ref 234, .ref 235, .ref 236, .ref 237, .ref 238, .ref 239, .ref 240, .ref 241, .ref 242, .ref 243, .ref 244, .ref 245, .ref 246, .ref 247, .ref 248, .ref 249, .ref 250, .ref 251, .ref 252, .ref 253, .ref 254, .ref 255, .ref 256, .ref 257], vm := .none },
  { cls := 9, slots := #[.int (-128)], vm := .none },
  { cls := 9, slots := #[.int (-127)], vm := .none },
  { cls := 9, slots := #[.int (-126)], vm := .none },
  { cls := 9, slots := #[.int (-125)], vm := .none },
  { cls := 9, slots := #[.int (-124)], vm := .none },
  { cls := 9, slots := #[.int (-123)], vm := .none },
  { cls := 9, slots := #[.int (-122)], vm := .none },
  { cls := 9, slots := #[.int (-121)], vm := .none },
  { cls := 9, slots := #[.int (-120)], vm := .none },
  { cls := 9, slots := #[.int (-119)], vm := .none },
  { cls := 9, slots := #[.int (-118)], vm := .none },
  { cls := 9, slots := #[.int (-117)], vm := .none },
  { cls := 9, slots := #[.int (-116)], vm := .none },
  { cls := 9, slots := #[.int (-115)], vm := .none },
  { cls := 9, slots := #[.int (-114)], vm := .none },
  { cls := 9, slots := #[.int (-113)], vm := .none },
  { cls := 9, slots := #[.int (-112)], vm := .none },
  { cls := 9, slots := #[.int (-111)], vm := .none },
  { cls := 9, slots := #[.int (-110)], vm := .none },
  { cls := 9, slots := #[.int (-109)], vm := .none },
  { cls := 9, slots := #[.int (-108)], vm := .none },
  { cls := 9, slots := #[.int (-107)], vm := .none },
  { cls := 9, slots := #[.int (-106)], vm := .none },
  { cls := 9, slots := #[.int (-105)], vm := .none },
  { cls := 9, slots := #[.int (-104)], vm := .none },
  { cls := 9, slots := #[.int (-103)], vm := .none },
  { cls := 9, slots := #[.int (-102)], vm := .none },
  { cls := 9, slots := #[.int (-101)], vm := .none },
  { cls := 9, slots := #[.int (-100)], vm := .none },
  { cls := 9, slots := #[.int (-99)], vm := .none },
  { cls := 9, slots := #[.int (-98)], vm := .none },
  { cls := 9, slots := #[.int (-97)], vm := .none },
  { cls := 9, slots := #[.int (-96)], vm := .none },
  { cls := 9, slots := #[.int (-95)], vm := .none },
  { cls := 9, slots := #[.int (-94)], vm := .none },
  { cls := 9, slots := #[.int (-93)], vm := .none },
  { cls := 9, slots := #[.int (-92)], vm := .none },
  { cls := 9, slots := #[.int (-91)], vm := .none },
  { cls := 9, slots := #[.int (-90)], vm := .none },
  { cls := 9, slots := #[.int (-89)], vm := .none },
  { cls := 9, slots := #[.int (-88)], vm := .none },
  { cls := 9, slots := #[.int (-87)], vm := .none },
  { cls := 9, slots := #[.int (-86)], vm := .none },
  { cls := 9, slots := #[.int (-85)], vm := .none },
  { cls := 9, slots := #[.int (-84)], vm := .none },
  { cls := 9, slots := #[.int (-83)], vm := .none },
  { cls := 9, slots := #[.int (-82)], vm := .none },
  { cls := 9, slots := #[.int (-81)], vm := .none },
  { cls := 9, slots := #[.int (-80)], vm := .none },
  { cls := 9, slots := #[.int (-79)], vm := .none },
  { cls := 9, slots := #[.int (-78)], vm := .none },
  { cls := 9, slots := #[.int (-77)], vm := .none },
  { cls := 9, slots := #[.int (-76)], vm := .none },
  { cls := 9, slots := #[.int (-75)], vm := .none },
  { cls := 9, slots := #[.int (-74)], vm := .none },
  { cls := 9, slots := #[.int (-73)], vm := .none },
  { cls := 9, slots := #[.int (-72)], vm := .none },
  { cls := 9, slots := #[.int (-71)], vm := .none },
  { cls := 9, slots := #[.int (-70)], vm := .none },
  { cls := 9, slots := #[.int (-69)], vm := .none },
  { cls := 9, slots := #[.int (-68)], vm := .none },
  { cls := 9, slots := #[.int (-67)], vm := .none },
  { cls := 9, slots := #[.int (-66)], vm := .none },
  { cls := 9, slots := #[.int (-65)], vm := .none },
  { cls := 9, slots := #[.int (-64)], vm := .none },
  { cls := 9, slots := #[.int (-63)], vm := .none },
  { cls := 9, slots := #[.int (-62)], vm := .none },
  { cls := 9, slots := #[.int (-61)], vm := .none },
  { cls := 9, slots := #[.int (-60)], vm := .none },
  { cls := 9, slots := #[.int (-59)], vm := .none },
  { cls := 9, slots := #[.int (-58)], vm := .none },
  { cls := 9, slots := #[.int (-57)], vm := .none },
  { cls := 9, slots := #[.int (-56)], vm := .none },
  { cls := 9, slots := #[.int (-55)], vm := .none },
  { cls := 9, slots := #[.int (-54)], vm := .none },
  { cls := 9, slots := #[.int (-53)], vm := .none },
  { cls := 9, slots := #[.int (-52)], vm := .none },
  { cls := 9, slots := #[.int (-51)], vm := .none },
  { cls := 9, slots := #[.int (-50)], vm := .none },
  { cls := 9, slots := #[.int (-49)], vm := .none },
  { cls := 9, slots := #[.int (-48)], vm := .none },
  { cls := 9, slots := #[.int (-47)], vm := .none },
  { cls := 9, slots := #[.int (-46)], vm := .none },
  { cls := 9, slots := #[.int (-45)], vm := .none },
  { cls := 9, slots := #[.int (-44)], vm := .none },
  { cls := 9, slots := #[.int (-43)], vm := .none },
  { cls := 9, slots := #[.int (-42)], vm := .none },
  { cls := 9, slots := #[.int (-41)], vm := .none },
  { cls := 9, slots := #[.int (-40)], vm := .none },
  { cls := 9, slots := #[.int (-39)], vm := .none },
  { cls := 9, slots := #[.int (-38)], vm := .none },
  { cls := 9, slots := #[.int (-37)], vm := .none },
  { cls := 9, slots := #[.int (-36)], vm := .none },
  { cls := 9, slots := #[.int (-35)], vm := .none },
  { cls := 9, slots := #[.int (-34)], vm := .none },
  { cls := 9, slots := #[.int (-33)], vm := .none },
  { cls := 9, slots := #[.int (-32)], vm := .none },
  { cls := 9, slots := #[.int (-31)], vm := .none },
  { cls := 9, slots := #[.int (-30)], vm := .none },
  { cls := 9, slots := #[.int (-29)], vm := .none },
  { cls := 9, slots := #[.int (-28)], vm := .none },
  { cls := 9, slots := #[.int (-27)], vm := .none },
  { cls := 9, slots := #[.int (-26)], vm := .none },
  { cls := 9, slots := #[.int (-25)], vm := .none },
  { cls := 9, slots := #[.int (-24)], vm := .none },
  { cls := 9, slots := #[.int (-23)], vm := .none },
  { cls := 9, slots := #[.int (-22)], vm := .none },
  { cls := 9, slots := #[.int (-21)], vm := .none },
  { cls := 9, slots := #[.int (-20)], vm := .none },
  { cls := 9, slots := #[.int (-19)], vm := .none },
  { cls := 9, slots := #[.int (-18)], vm := .none },
  { cls := 9, slots := #[.int (-17)], vm := .none },
  { cls := 9, slots := #[.int (-16)], vm := .none },
  { cls := 9, slots := #[.int (-15)], vm := .none },
  { cls := 9, slots := #[.int (-14)], vm := .none },
  { cls := 9, slots := #[.int (-13)], vm := .none },
  { cls := 9, slots := #[.int (-12)], vm := .none },
  { cls := 9, slots := #[.int (-11)], vm := .none },
  { cls := 9, slots := #[.int (-10)], vm := .none },
  { cls := 9, slots := #[.int (-9)], vm := .none },
  { cls := 9, slots := #[.int (-8)], vm := .none },
  { cls := 9, slots := #[.int (-7)], vm := .none },
  { cls := 9, slots := #[.int (-6)], vm := .none },
  { cls := 9, slots := #[.int (-5)], vm := .none },
  { cls := 9, slots := #[.int (-4)], vm := .none },
  { cls := 9, slots := #[.int (-3)], vm := .none },
  { cls := 9, slots := #[.int (-2)], vm := .none },
  { cls := 9, slots := #[.int (-1)], vm := .none },
  { cls := 9, slots := #[.int 0], vm := .none },
  { cls := 9, slots := #[.int 1], vm := .none },
  { cls := 9, slots := #[.int 2], vm := .none },
  { cls := 9, slots := #[.int 3], vm := .none },
  { cls := 9, slots := #[.int 4], vm := .none },
  { cls := 9, slots := #[.int 5], vm := .none },
  { cls := 9, slots := #[.int 6], vm := .none },
  { cls := 9, slots := #[.int 7], vm := .none },
  { cls := 9, slots := #[.int 8], vm := .none },
  { cls := 9, slots := #[.int 9], vm := .none },
  { cls := 9, slots := #[.int 10], vm := .none },
  { cls := 9, slots := #[.int 11], vm := .none },
  { cls := 9, slots := #[.int 12], vm := .none },
  { cls := 9, slots := #[.int 13], vm := .none },
  { cls := 9, slots := #[.int 14], vm := .none },
  { cls := 9, slots := #[.int 15], vm := .none },
  { cls := 9, slots := #[.int 16], vm := .none },
  { cls := 9, slots := #[.int 17], vm := .none },
  { cls := 9, slots := #[.int 18], vm := .none },
  { cls := 9, slots := #[.int 19], vm := .none },
  { cls := 9, slots := #[.int 20], vm := .none },
  { cls := 9, slots := #[.int 21], vm := .none },
  { cls := 9, slots := #[.int 22], vm := .none },
  { cls := 9, slots := #[.int 23], vm := .none },
  { cls := 9, slots := #[.int 24], vm := .none },
  { cls := 9, slots := #[.int 25], vm := .none },
  { cls := 9, slots := #[.int 26], vm := .none },
  { cls := 9, slots := #[.int 27], vm := .none },
  { cls := 9, slots := #[.int 28], vm := .none },
  { cls := 9, slots := #[.int 29], vm := .none },
  { cls := 9, slots := #[.int 30], vm := .none },
  { cls := 9, slots := #[.int 31], vm := .none },
  { cls := 9, slots := #[.int 32], vm := .none },
  { cls := 9, slots := #[.int 33], vm := .none },
  { cls := 9, slots := #[.int 34], vm := .none },
  { cls := 9, slots := #[.int 35], vm := .none },
  { cls := 9, slots := #[.int 36], vm := .none },
  { cls := 9, slots := #[.int 37], vm := .none },
  { cls := 9, slots := #[.int 38], vm := .none },
  { cls := 9, slots := #[.int 39], vm := .none },
  { cls := 9, slots := #[.int 40], vm := .none },
  { cls := 9, slots := #[.int 41], vm := .none },
  { cls := 9, slots := #[.int 42], vm := .none },
  { cls := 9, slots := #[.int 43], vm := .none },
  { cls := 9, slots := #[.int 44], vm := .none },
  { cls := 9, slots := #[.int 45], vm := .none },
  { cls := 9, slots := #[.int 46], vm := .none },
  { cls := 9, slots := #[.int 47], vm := .none },
  { cls := 9, slots := #[.int 48], vm := .none },
  { cls := 9, slots := #[.int 49], vm := .none },
  { cls := 9, slots := #[.int 50], vm := .none },
  { cls := 9, slots := #[.int 51], vm := .none },
  { cls := 9, slots := #[.int 52], vm := .none },
  { cls := 9, slots := #[.int 53], vm := .none },
  { cls := 9, slots := #[.int 54], vm := .none },
  { cls := 9, slots := #[.int 55], vm := .none },
  { cls := 9, slots := #[.int 56], vm := .none },
  { cls := 9, slots := #[.int 57], vm := .none },
  { cls := 9, slots := #[.int 58], vm := .none },
  { cls := 9, slots := #[.int 59], vm := .none },
  { cls := 9, slots := #[.int 60], vm := .none },
  { cls := 9, slots := #[.int 61], vm := .none },
  { cls := 9, slots := #[.int 62], vm := .none },
  { cls := 9, slots := #[.int 63], vm := .none },
  { cls := 9, slots := #[.int 64], vm := .none },
  { cls := 9, slots := #[.int 65], vm := .none },
  { cls := 9, slots := #[.int 66], vm := .none },
  { cls := 9, slots := #[.int 67], vm := .none },
  { cls := 9, slots := #[.int 68], vm := .none },
  { cls := 9, slots := #[.int 69], vm := .none },
  { cls := 9, slots := #[.int 70], vm := .none },
  { cls := 9, slots := #[.int 71], vm := .none },
  { cls := 9, slots := #[.int 72], vm := .none },
  { cls := 9, slots := #[.int 73], vm := .none },
  { cls := 9, slots := #[.int 74], vm := .none },
  { cls := 9, slots := #[.int 75], vm := .none },
  { cls := 9, slots := #[.int 76], vm := .none },
  { cls := 9, slots := #[.int 77], vm := .none },
  { cls := 9, slots := #[.int 78], vm := .none },
  { cls := 9, slots := #[.int 79], vm := .none },
  { cls := 9, slots := #[.int 80], vm := .none },
  { cls := 9, slots := #[.int 81], vm := .none },
  { cls := 9, slots := #[.int 82], vm := .none },
  { cls := 9, slots := #[.int 83], vm := .none },
  { cls := 9, slots := #[.int 84], vm := .none },
  { cls := 9, slots := #[.int 85], vm := .none },
  { cls := 9, slots := #[.int 86], vm := .none },
  { cls := 9, slots := #[.int 87], vm := .none },
  { cls := 9, slots := #[.int 88], vm := .none },
  { cls := 9, slots := #[.int 89], vm := .none },
  { cls := 9, slots := #[.int 90], vm := .none },
  { cls := 9, slots := #[.int 91], vm := .none },
  { cls := 9, slots := #[.int 92], vm := .none },
  { cls := 9, slots := #[.int 93], vm := .none },
  { cls := 9, slots := #[.int 94], vm := .none },
  { cls := 9, slots := #[.int 95], vm := .none },
  { cls := 9, slots := #[.int 96], vm := .none },
  { cls := 9, slots := #[.int 97], vm := .none },
  { cls := 9, slots := #[.int 98], vm := .none },
  { cls := 9, slots := #[.int 99], vm := .none },
  { cls := 9, slots := #[.int 100], vm := .none },
  { cls := 9, slots := #[.int 101], vm := .none },
  { cls := 9, slots := #[.int 102], vm := .none },
  { cls := 9, slots := #[.int 103], vm := .none },
  { cls := 9, slots := #[.int 104], vm := .none },
  { cls := 9, slots := #[.int 105], vm := .none },
  { cls := 9, slots := #[.int 106], vm := .none },
  { cls := 9, slots := #[.int 107], vm := .none },
  { cls := 9, slots := #[.int 108], vm := .none },
  { cls := 9, slots := #[.int 109], vm := .none },
  { cls := 9, slots := #[.int 110], vm := .none },
  { cls := 9, slots := #[.int 111], vm := .none },
  { cls := 9, slots := #[.int 112], vm := .none },
  { cls := 9, slots := #[.int 113], vm := .none },
  { cls := 9, slots := #[.int 114], vm := .none },
  { cls := 9, slots := #[.int 115], vm := .none },
  { cls := 9, slots := #[.int 116], vm := .none },
  { cls := 9, slots := #[.int 117], vm := .none },
  { cls := 9, slots := #[.int 118], vm := .none },
  { cls := 9, slots := #[.int 119], vm := .none },
  { cls := 9, slots := #[.int 120], vm := .none },
  { cls := 9, slots := #[.int 121], vm := .none },
  { cls := 9, slots := #[.int 122], vm := .none },
  { cls := 9, slots := #[.int 123], vm := .none },
  { cls := 9, slots := #[.int 124], vm := .none },
  { cls := 9, slots := #[.int 125], vm := .none },
  { cls := 9, slots := #[.int 126], vm := .none },
  { cls := 9, slots := #[.int 127], vm := .none }]
def classes : Array Class := #[k0, k1, k2, k3, k4, k5, k6, k7, k8, k9, k10, k11, k12, k13, k14, k15, k16]
def interned : List (Array UInt16 × Addr) := []
def slotsUsed : Nat := 517
def theMethod : MethodId := ⟨1, 1⟩
def args0 : Array Value := #[.int 5, .int 3, .int 7, .int 2, .int 0]
def aboutOver (below : List Frame) : State where
  vm := { classes := classes, interned := interned.toArray }
  heap := heap
  slotsUsed := slotsUsed
  threads := #[{ frames := .invoking theMethod args0 :: below }]
def below0 : List Frame := [.native { method := ⟨0, 0⟩, args := #[] }]
def about1 : State := aboutOver below0
def p0 : Program := .bare "" "" ""
def e0 : Env := launch0.env 0 0 0
theorem w_frames : about1.frames = Frame.invoking theMethod args0 :: below0 := rfl
set_option maxRecDepth 65536 in
theorem w_args : argsFit about1.vm theMethod args0 = true := by decide +kernel
set_option maxRecDepth 65536 in
theorem w_heap : heapFits about1 = true := by decide +kernel
set_option maxRecDepth 65536 in
theorem w_runnable : about1.curStatus? = some .runnable := by decide +kernel
set_option maxRecDepth 65536 in
theorem w_alone : about1.alone = true := by decide +kernel
set_option maxRecDepth 65536 in
theorem w_named : about1.methodNamed? x = some theMethod := by decide +kernel
set_option maxRecDepth 65536 in
theorem w_hears : about1.hears theMethod below0 = true := by decide +kernel
set_option maxRecDepth 65536 in
theorem w_ripe : about1.ripe theMethod args0 below0 = true := by decide +kernel
theorem w_running : about1.status = .running := rfl
set_option maxRecDepth 65536 in
theorem w_room : about1.hasRoom e0.platform room_1 = true :=
  launch0.hasRoom_least _ room_1 (by decide +kernel) (by decide +kernel) (by decide +kernel) (by decide +kernel) (by decide +kernel) (by decide +kernel)
theorem allAtoms_all (ts : List Jvm.Cond) (a : Array Jvm.Value) (st : Jvm.State) : (allAtoms ts).before a st = ts.all (fun c => c.before a st) := by
  induction ts with
  | nil => rfl
  | cons c t ih =>
    show (Jvm.Cond.and c (allAtoms t)).before a st = _
    rw [Jvm.Cond.before_and, ih, List.all_cons]
def words1 : List Jvm.Cond := Jvm.Cond.code x code maxLocals ret :: tables_1
/-- a 'code' word, met by the world's own term for the bytes: nothing is compared byte by byte -/
theorem code_word {y : MethodName} {bytes : ByteArray} {mx : Nat} {rt : Option FieldType} {a : Array Value} {s : State} {m : MethodId} {meth : Method} {c : Code} (h1 : s.methodNamed? y = some m) (h2 : s.vm.method? m = some meth) (h3 : meth.code = some c) (h4 : c.code = bytes)
    (h5 : (c.maxLocals == mx && c.exceptionTable.isEmpty && decide (c.maxStack ≤ mostOperands) && decide (meth.sig.returnType = rt) && !meth.locks && decide (parseMethodDescriptor y.desc = some meth.sig)) = true) : (Jvm.Cond.code y bytes mx rt).before a s = true := by
  simp only [Bool.and_eq_true, beq_iff_eq, Bool.not_eq_true', decide_eq_true_eq] at h5
  obtain ⟨⟨⟨⟨⟨g1, g2⟩, g3⟩, g4⟩, g5⟩, g6⟩ := h5
  simp [Cond.before, Cond.holds, Cond.value, h1, h2, h3, h4, g1, g2, g3, g4, g5, g6]
def isCode : Jvm.Cond → Bool
  | .code _ _ _ _ => true
  | _ => false
theorem all_split {L : List Jvm.Cond} {P : Jvm.Cond → Bool} (h1 : L.all (fun c => isCode c || P c) = true) (h2 : ∀ c ∈ L.filter isCode, P c = true) : L.all P = true := by
  refine List.all_eq_true.mpr fun c hc => ?_
  have h := List.all_eq_true.mp h1 c hc
  rcases Bool.eq_false_or_eq_true (isCode c) with hi | hi
  · exact h2 c (List.mem_filter.mpr ⟨hc, hi⟩)
  · simpa [hi] using h
set_option maxRecDepth 65536 in
theorem w_c0 : (Jvm.Cond.code x code maxLocals ret).before args0 about1 = true := code_word (m := ⟨1, 1⟩) (meth := k1m1) (c := k1c1) (by decide +kernel) rfl rfl rfl (by decide +kernel)
set_option maxRecDepth 65536 in
theorem w_c1 : (Jvm.Cond.code ({ cls := "com/example/opicina/opicina/semantics/Estimate", name := "<init>", desc := "(II)V" } : Jvm.MethodName) prog_101_method_1_code (3 : Nat) (Option.none : Option Jvm.ClassFile.FieldType)).before args0 about1 = true := code_word (m := ⟨2, 0⟩) (meth := k2m0) (c := k2c0) (by decide +kernel) rfl rfl rfl (by decide +kernel)
set_option maxRecDepth 65536 in
theorem w_c2 : (Jvm.Cond.code ({ cls := "java/lang/Object", name := "<init>", desc := "()V" } : Jvm.MethodName) object_method_1_code (1 : Nat) (Option.none : Option Jvm.ClassFile.FieldType)).before args0 about1 = true := code_word (m := ⟨0, 0⟩) (meth := k0m0) (c := k0c0) (by decide +kernel) rfl rfl rfl (by decide +kernel)
set_option maxRecDepth 65536 in
theorem w_c3 : (Jvm.Cond.code ({ cls := "com/example/opicina/opicina/semantics/Estimate", name := "equals", desc := "(Ljava/lang/Object;)Z" } : Jvm.MethodName) prog_101_method_9_code (3 : Nat) (Option.some Jvm.ClassFile.FieldType.boolean)).before args0 about1 = true := code_word (m := ⟨2, 1⟩) (meth := k2m1) (c := k2c1) (by decide +kernel) rfl rfl rfl (by decide +kernel)
set_option maxRecDepth 65536 in
theorem w_c4 : (Jvm.Cond.code ({ cls := "java/lang/Math", name := "min", desc := "(II)I" } : Jvm.MethodName) jdk_29_method_69_code (2 : Nat) (Option.some Jvm.ClassFile.FieldType.int)).before args0 about1 = true := code_word (m := ⟨3, 1⟩) (meth := k3m1) (c := k3c1) (by decide +kernel) rfl rfl rfl (by decide +kernel)
set_option maxRecDepth 65536 in
theorem w_c5 : (Jvm.Cond.code ({ cls := "java/lang/Integer", name := "valueOf", desc := "(I)Ljava/lang/Integer;" } : Jvm.MethodName) jdk_33_method_22_code (1 : Nat) (Option.some (Jvm.ClassFile.FieldType.object "java/lang/Integer"))).before args0 about1 = true := code_word (m := ⟨9, 0⟩) (meth := k9m0) (c := k9c0) (by decide +kernel) rfl rfl rfl (by decide +kernel)
set_option maxRecDepth 65536 in
theorem w_c6 : (Jvm.Cond.code ({ cls := "java/lang/Integer", name := "<init>", desc := "(I)V" } : Jvm.MethodName) jdk_33_method_23_code (2 : Nat) (Option.none : Option Jvm.ClassFile.FieldType)).before args0 about1 = true := code_word (m := ⟨9, 1⟩) (meth := k9m1) (c := k9c1) (by decide +kernel) rfl rfl rfl (by decide +kernel)
set_option maxRecDepth 65536 in
theorem w_c7 : (Jvm.Cond.code ({ cls := "java/lang/Number", name := "<init>", desc := "()V" } : Jvm.MethodName) jdk_18_method_1_code (1 : Nat) (Option.none : Option Jvm.ClassFile.FieldType)).before args0 about1 = true := code_word (m := ⟨5, 0⟩) (meth := k5m0) (c := k5c0) (by decide +kernel) rfl rfl rfl (by decide +kernel)
def codes1 : List Jvm.Cond := [Jvm.Cond.code x code maxLocals ret, Jvm.Cond.code ({ cls := "com/example/opicina/opicina/semantics/Estimate", name := "<init>", desc := "(II)V" } : Jvm.MethodName) prog_101_method_1_code (3 : Nat) (Option.none : Option Jvm.ClassFile.FieldType), Jvm.Cond.code ({ cls := "java/lang/Object", name := "<init>", desc := "()V" } : Jvm.MethodName) object_method_1_code (1 : Nat) (Option.none : Option Jvm.ClassFile.FieldType), Jvm.Cond.code ({ cls := "com/example/opicina/opicina/semantics/Estimate", name := "equals", desc := "(Ljava/lang/Object;)Z" } : Jvm.MethodName) prog_101_method_9_code (3 : Nat) (Option.some Jvm.ClassFile.FieldType.boolean), Jvm.Cond.code ({ cls := "java/lang/Math", name := "min", desc := "(II)I" } : Jvm.MethodName) jdk_29_method_69_code (2 : Nat) (Option.some Jvm.ClassFile.FieldType.int), Jvm.Cond.code ({ cls := "java/lang/Integer", name := "valueOf", desc := "(I)Ljava/lang/Integer;" } : Jvm.MethodName) jdk_33_method_22_code (1 : Nat) (Option.some (Jvm.ClassFile.FieldType.object "java/lang/Integer")), Jvm.Cond.code ({ cls := "java/lang/Integer", name := "<init>", desc := "(I)V" } : Jvm.MethodName) jdk_33_method_23_code (2 : Nat) (Option.none : Option Jvm.ClassFile.FieldType), Jvm.Cond.code ({ cls := "java/lang/Number", name := "<init>", desc := "()V" } : Jvm.MethodName) jdk_18_method_1_code (1 : Nat) (Option.none : Option Jvm.ClassFile.FieldType)]
set_option maxRecDepth 65536 in
theorem codes_eq : words1.filter isCode = codes1 := rfl
theorem w_codes : ∀ c ∈ words1.filter isCode, c.before args0 about1 = true := by
  rw [codes_eq]
  intro c hc
  simp only [codes1, List.mem_cons, List.not_mem_nil, or_false] at hc
  rcases hc with rfl | rfl | rfl | rfl | rfl | rfl | rfl | rfl
  · exact w_c0
  · exact w_c1
  · exact w_c2
  · exact w_c3
  · exact w_c4
  · exact w_c5
  · exact w_c6
  · exact w_c7
set_option maxRecDepth 65536 in
theorem w_t1 : (words1.take 24).all (fun c => isCode c || c.before args0 about1) = true := by decide +kernel
set_option maxRecDepth 65536 in
theorem w_t2 : ((words1.drop 24).take 24).all (fun c => isCode c || c.before args0 about1) = true := by decide +kernel
set_option maxRecDepth 65536 in
theorem w_t3 : ((words1.drop 24).drop 24).all (fun c => isCode c || c.before args0 about1) = true := by decide +kernel
theorem w_tables : (allAtoms (Jvm.Cond.code x code maxLocals ret :: tables_1)).before args0 about1 = true := by
  rw [allAtoms_all]
  show words1.all (fun c => c.before args0 about1) = true
  refine all_split ?_ w_codes
  rw [← List.take_append_drop 24 words1, List.all_append, w_t1, ← List.take_append_drop 24 (words1.drop 24), List.all_append, w_t2, w_t3]
  rfl
set_option maxRecDepth 65536 in
theorem w_rest : rest_1_c.before args0 about1 = true := by decide +kernel
set_option maxRecDepth 65536 in
theorem w_case : (Jvm.Cond.and given_1 narrow_1).before args0 about1 = true := by decide +kernel
theorem w_applies : (headSpec (Jvm.Cond.code x code maxLocals ret :: tables_1) room_1).applies x e0.platform about1 = true :=
  (Spec.applies_iff w_frames).mpr ⟨w_running, w_runnable, w_alone, w_named, w_hears, w_ripe, w_room, w_tables⟩
theorem atStart : AtStart classFile x code maxLocals ret World_1 tables_1 room_1 Calls_1 rest_1 Pre_1 launch0 p0 e0 about1 theMethod args0 below0 :=
  ⟨lists_1, trivial, launch0.admits_env _ _ _, launch0.least_env, fairChoices_fair.cas, fairChoices_fair.clock, w_frames, w_args, w_heap, w_applies, trivial, w_rest, w_case⟩
end start1
theorem witness_1 : WitnessClaimed_1 := ⟨start1.p0, start1.e0, start1.about1, start1.theMethod, start1.args0, start1.below0, start1.atStart⟩
end Jvm.Pilot.@@N@@
