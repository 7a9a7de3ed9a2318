import JvmDerived
import JvmDerived.Pilot.@@N@@Statement
import JvmDerived.Pilot.@@N@@Code
set_option linter.unusedVariables false
set_option linter.unusedSimpArgs false
namespace Jvm.Pilot.@@N@@
open Jvm Jvm.ClassFile Sem Op Lib Jvm.Free Jvm.Stand Jvm.LawKit Jvm.RoadKit Bundle Jvm.Pilot.@@N@@.Jvm.D
abbrev sF (T : State) (m : MethodId) (pc : Nat) (Ls : Array Slot) (st : List Value) : State := T.setTop (mkF m pc Ls st)
/-- from F the run goes on to the method's end, and W holds there -/
def Goes (p : Program) (e : Env) (below : List Frame) (W : Outcome → State → Prop) (F : State) : Prop := ∃ s₂ o, Steps p.tables e below F s₂ ∧ s₂.status = .running ∧ Ended s₂ below o ∧ W o s₂
theorem Goes.step {p : Program} {e : Env} {below : List Frame} {W : Outcome → State → Prop} {F F' : State} (g : Goes p e below W F') (h : ∀ t, Steps p.tables e below F' t → Steps p.tables e below F t) : Goes p e below W F := by
  obtain ⟨s₂, o, h1, h2⟩ := g
  exact ⟨s₂, o, h _ h1, h2⟩
section Fin
variable {p : Program} {l : Launch} {e : Env} {R : Room} {s : State} {m : MethodId} {args : Array Value} {below : List Frame} {meth : Method} {c : Code} {T : State} {locs : List Loc} {cells slots : Nat}
theorem own_out (X : Stand p l e R s m args below meth c T locs cells slots) (hx : p.tables.exec = Jvm.exec) (hlk : meth.locks = false) {pc : Nat} {Ls : Array Slot} {w : Value} {t : FieldType} {i : Instr} {rest : List Value} {P : Option Value → Heap → List Loc → Prop} {C N : Nat} (hret : meth.sig.returnType = some t) (hn : narrow t w = w)
    (hi : (i = .ireturn ∧ (t = .int ∨ t = .boolean ∨ t = .byte ∨ t = .char ∨ t = .short) ∧ ∃ z, w = .int z) ∨ (i = .lreturn ∧ t = .long ∧ ∃ z, w = .long z) ∨ (i = .dreturn ∧ t = .double ∧ ∃ z, w = .double z) ∨ (i = .freturn ∧ t = .float ∧ ∃ z, w = .float z) ∨ (i = .areturn ∧ t.isReference = true ∧ w.isRef = true))
    (hd : decode c.code pc = .ok (i, 1)) (hP : P (some w) T.heap locs) (hC : cells ≤ C) (hN : slots ≤ N) :
    Goes p e below (fun o U' => ∃ v L, o = .returned v ∧ P v U'.heap L ∧ FrameEnd s o U' L C N) (T.setTop (mkF m pc Ls (w :: rest))) := by
  obtain ⟨fs, hr, hrun, hended, hW, hsame⟩ := X.leave (v := some w) (fun h => by rw [hret] at h; cases h)
  exact ⟨_, _, retOut X hx hret hn hi hd hr, hrun, hended, _, _, rfl, hP, ⟨_, rfl⟩, hW, hsame.mono hC hN⟩
theorem own_outV (X : Stand p l e R s m args below meth c T locs cells slots) (hx : p.tables.exec = Jvm.exec) (hlk : meth.locks = false) {pc : Nat} {Ls : Array Slot} {P : Option Value → Heap → List Loc → Prop} {C N : Nat} (hret : meth.sig.returnType = none)
    (hd : decode c.code pc = .ok (.return_, 1)) (hP : P none T.heap locs) (hC : cells ≤ C) (hN : slots ≤ N) :
    Goes p e below (fun o U' => ∃ v L, o = .returned v ∧ P v U'.heap L ∧ FrameEnd s o U' L C N) (T.setTop (mkF m pc Ls [])) := by
  obtain ⟨fs, hr, hrun, hended, hW, hsame⟩ := X.leave (v := none) (fun _ => rfl)
  exact ⟨_, _, X.returnOut hx hret hd hr, hrun, hended, _, _, rfl, hP, ⟨_, rfl⟩, hW, hsame.mono hC hN⟩
theorem own_outW {vm₁ : Vm} {n : Nat} (X : Stand p l e R (s.setVm vm₁) m args below meth c T locs cells slots) (hS : s.Since vm₁ n) (hn : n ≤ T.heap.size) (hx : p.tables.exec = Jvm.exec) (hlk : meth.locks = false) {pc : Nat} {Ls : Array Slot} {w : Value} {t : FieldType} {i : Instr} {rest : List Value} {P : Option Value → Heap → List Loc → Prop} {C N : Nat} (hret : meth.sig.returnType = some t) (hnw : narrow t w = w)
    (hi : (i = .ireturn ∧ (t = .int ∨ t = .boolean ∨ t = .byte ∨ t = .char ∨ t = .short) ∧ ∃ z, w = .int z) ∨ (i = .lreturn ∧ t = .long ∧ ∃ z, w = .long z) ∨ (i = .dreturn ∧ t = .double ∧ ∃ z, w = .double z) ∨ (i = .freturn ∧ t = .float ∧ ∃ z, w = .float z) ∨ (i = .areturn ∧ t.isReference = true ∧ w.isRef = true))
    (hd : decode c.code pc = .ok (i, 1)) (hP : P (some w) T.heap locs) (hC : cells ≤ C) (hN : slots ≤ N) :
    Goes p e below (fun o U' => ∃ v L, o = .returned v ∧ P v U'.heap L ∧ ReturnedEndW s o U' L C N) (T.setTop (mkF m pc Ls (w :: rest))) := by
  obtain ⟨fs, hr, hrun, hended, h1, h2, h3, h4⟩ := X.leaveW hS hn (v := some w) (fun h => by rw [hret] at h; cases h)
  exact ⟨_, _, retOut X hx hret hnw hi hd hr, hrun, hended, _, _, rfl, hP, h1, h2, h3, h4.mono hC hN⟩
theorem own_outVW {vm₁ : Vm} {n : Nat} (X : Stand p l e R (s.setVm vm₁) m args below meth c T locs cells slots) (hS : s.Since vm₁ n) (hn : n ≤ T.heap.size) (hx : p.tables.exec = Jvm.exec) (hlk : meth.locks = false) {pc : Nat} {Ls : Array Slot} {P : Option Value → Heap → List Loc → Prop} {C N : Nat} (hret : meth.sig.returnType = none)
    (hd : decode c.code pc = .ok (.return_, 1)) (hP : P none T.heap locs) (hC : cells ≤ C) (hN : slots ≤ N) :
    Goes p e below (fun o U' => ∃ v L, o = .returned v ∧ P v U'.heap L ∧ ReturnedEndW s o U' L C N) (T.setTop (mkF m pc Ls [])) := by
  obtain ⟨fs, hr, hrun, hended, h1, h2, h3, h4⟩ := X.leaveW hS hn (v := none) (fun _ => rfl)
  exact ⟨_, _, X.returnOut hx hret hd hr, hrun, hended, _, _, rfl, hP, h1, h2, h3, h4.mono hC hN⟩
theorem own_lrem {g : JFrame} {target : State} (X : Stand p l e R s m args below meth c T locs cells slots) (hx : p.tables.exec = Jvm.exec) (hg : g.method = m) {x y : Int64} {rest : List Value} (hd : decode c.code g.pc = .ok (.lrem, 1)) (hs : g.stack = .long y :: .long x :: rest) (hy : y ≠ 0)
    (hr : Steps p.tables e below (T.setTop { g with pc := g.pc + 1, stack := .long (x % y) :: rest }) target) : Steps p.tables e below (T.setTop g) target := by
  have q : x - x / y * y = x % y := lrem_mod x y
  exact XS.lrem X.here hx hg hd hs hy (by rw [q]; exact hr)
end Fin
theorem own_eqI {args : Array Value} {first s : State} {o : Option Outcome} {idx : List Nat} {t : Term} {n : Int32} (h : (Jvm.Cond.eq t (.int n)).value args first o s idx = some true) : t.eval args first o idx s = some (.int n) := by
  cases ht : t.eval args first o idx s with
  | none => simp [Cond.value, ht] at h
  | some v => cases v <;> simp [Cond.value, Term.eval, ht] at h ⊢ <;> exact h
theorem own_ne {s : State} {a b : Addr} {C n d : String} {x y : Int32} (h1 : s.fieldOf? a C n d = some (.int x)) (h2 : s.fieldOf? b C n d = some (.int y)) (hne : x ≠ y) : a ≠ b := fun e => by
  subst e; rw [h1] at h2; exact hne (Value.int.inj (Option.some.inj h2))
theorem own_ext {h h1 h2 : Heap} {b : Addr} (E : Ext h h1) (K : Keep h1 h2 [b]) (g : h.size ≤ b) : Ext h h2 :=
  ⟨Nat.le_trans E.1 K.1, fun a c q => K.2.1 a c (E.2 a c q) (ninS (Nat.ne_of_lt (Nat.lt_of_lt_of_le (Array.getElem?_eq_some_iff.mp q).1 g)) nin0)⟩
theorem own_NSroot {Z : State} {a0 : Array Value} {O K : String} {n : Nat} (w : (Jvm.Cond.noSuperclass O).before a0 Z = true) (wk : (Jvm.Cond.instantiable K n).before a0 Z = true) (hn : O ≠ K) : NS Z O K := by
  obtain ⟨c, k, h1, h2, h3, -, -⟩ := Cond.noSuperclass_spec w
  obtain ⟨t, k', g1, -⟩ := Cond.instantiable_spec wk
  have ne := ids_ne h1 g1 hn
  refine ⟨c, t, h1, g1, fun fuel => ?_⟩
  cases fuel with
  | zero => rfl
  | succ f => simp [Vm.isSubclassAux, ne, h2, h3]
theorem own_no {Z : State} {a0 : Array Value} {C S K : String} {n : Nat} (w : (Jvm.Cond.superclass C S).before a0 Z = true) (wk : (Jvm.Cond.instantiable K n).before a0 Z = true) (ns : NS Z C K) (hn : C ≠ K) : ∃ c t, Z.vm.findClass C = some c ∧ Z.vm.findClass K = some t ∧ Z.vm.assignable c t = false := by
  obtain ⟨c, t, h0, g0, n3⟩ := ns
  obtain ⟨p, k, kp, h1, h2, h3, h4, h5, -, h7⟩ := Cond.superclass_spec h0 w
  obtain ⟨t', k', g1, g2, g5, g6, -⟩ := Cond.instantiable_spec wk
  cases g0.symm.trans g1
  have g7 : k'.isInterface = false := by simp only [Bool.or_eq_false_iff] at g6; exact g6.1
  have ne := ids_ne h0 g0 hn
  refine ⟨c, t, h0, g0, ?_⟩
  show Z.vm.assignableAux (255 + 1) c t = false
  simp [Vm.assignableAux, ne, h2, g2, h5, g5, g7, Vm.isSubclass, n3]
theorem own_len {s : State} {args : Array Value} {t : Term} {a : Addr} {cl : Cell} (ht : t.eval args s none [] s = some (.ref a)) (ha : s.arrayAt? a = some cl) (hl : (Term.length t).eval args s none [] s = some (.int (256 : Int32))) : cl.slots.size = 256 := by
  by_cases q : cl.slots.size < 2 ^ 31
  · have h := len_f ht ha q
    rw [h] at hl
    have h2 := congrArg Int32.toInt (Value.int.inj (Option.some.inj hl))
    rw [len_toInt q] at h2
    have e : (256 : Int32).toInt = 256 := by decide
    omega
  · simp [Term.eval, ht, ha, q] at hl
theorem own_elem {s : State} {args : Array Value} {t : Term} {a : Addr} {cl : Cell} {C : String} {i : Nat} (ht : t.eval args s none [i] s = some (.ref a)) (ha : s.arrayAt? a = some cl) (hi : i < cl.slots.size) (hs : cl.slots.size < 2 ^ 31) (h : (Jvm.Cond.exactly (.elem t (.index 0)) C).value args s none s [i] = some true) : ∃ x, cl.slots[i]? = some (.ref x) ∧ Exa s s.heap x C := by
  have hx' : (Jvm.Cond.exactly (.elem t (.index 0)) C).holds args s none s [i] = true := by simp [Cond.holds, h]
  obtain ⟨x, c, cell, k, e1, e2, e3, e4, e5, rfl, e7⟩ := Cond.exactly_spec hx'
  have q := idx_in hi hs
  have hj : (Term.index 0).eval args s none [i] s = some (.int i.toInt32) := rfl
  have e := elem_f ht hj ha (fun z => q (Or.inl z))
  have hn : i.toInt32.toNatClampNeg = i := by
    have z : i.toInt32.toInt = i := len_toInt (by omega)
    rw [Int32.toNatClampNeg, z]; simp
  rw [e, hn] at e1
  exact ⟨x, e1, cell, k, e3, e2, e4, e5, e7⟩
theorem pn_java_lang_Number : plainName "java/lang/Number" = true := by first | (simp [plainName, overriddenIn]; done) | decide +kernel
theorem ef_rmNum (m : MethodId) (x0 : Addr) : entryFrame m #[(.ref x0)] 1 = mkF m 0 #[rv x0] [] := by first | (simp [entryFrame, mkF, argsToLocals, Value.category]; done) | rfl
def QNum (h0 : Heap) (n0 : Nat) (v : Option Value) (h : Heap) (L : List Loc) : Prop := v = none ∧ Fr n0 L ∧ h = h0
theorem d10_0 : decode jdk_18_method_1_code 0 = .ok (.aload_n 0, 1) := by decide +kernel
theorem d10_1 : decode jdk_18_method_1_code 1 = .ok (.invokespecial 1, 3) := by decide +kernel
theorem d10_4 : decode jdk_18_method_1_code 4 = .ok (.return_, 1) := by decide +kernel
set_option maxRecDepth 65536 in
set_option maxHeartbeats 40000000 in
theorem rmNum (l : Launch) (Z : State) (a0 : Array Value) (hw : ∀ d ∈ tables_1, d.before a0 Z = true) (ws : List Jvm.Cond) (a1 : Addr) (h0 : Heap) (n0 : Nat) (Z0 : n0 ≤ h0.size) :
    MetFree l (⟨"java/lang/Number", "<init>", "()V"⟩ : MethodName) (head1 (Jvm.Cond.code (⟨"java/lang/Number", "<init>", "()V"⟩ : MethodName) jdk_18_method_1_code 1 none :: ws) ({ frames := 1, cells := 0, slots := 0, locals := 12 } : Room)) (fun a U => a = #[(.ref a1)] ∧ Z.Warmed39 U.vm ∧ U.heap = h0) (fun _ _ _ _ _ => True) (fun _ U o U' => ∃ v L, o = .returned v ∧ QNum h0 n0 v U'.heap L ∧ FrameEnd U o U' L ({ frames := 1, cells := 0, slots := 0, locals := 12 } : Room).cells ({ frames := 1, cells := 0, slots := 0, locals := 12 } : Room).slots) := by
  refine MetFree.of_bodySF (plainFor_of_name pn_java_lang_Number) hisR ?_
  intro p e s m args below meth c s₁ Bd hml0 hP hK
  obtain ⟨rfl, hZ, hh⟩ := hP
  have hx := Bd.exec
  have hby := Bd.bytes
  have hlk : meth.locks = false := BodyLoose.notSynchronized Bd
  have hml : c.maxLocals = 1 := hml0
  have hown : s.vm.findClass "java/lang/Number" = some m.cls := findClass_of_methodNamed Bd.named
  have hnm := (name_of_methodNamed Bd.named Bd.method).1
  have X0 : Stand p l e ({ frames := 1, cells := 0, slots := 0, locals := 12 } : Room) s m #[(.ref a1)] below meth c s₁ [] 0 0 := Stand.of_body Bd
  have e0 : s₁.heap = h0 := by rw [← hh, Bd.state]; rfl
  have N0 := Fr.nil n0
  have hret := Bd.returns
  show Goes p e below (fun o U' => ∃ v L, o = .returned v ∧ QNum h0 n0 v U'.heap L ∧ FrameEnd s o U' L ({ frames := 1, cells := 0, slots := 0, locals := 12 } : Room).cells ({ frames := 1, cells := 0, slots := 0, locals := 12 } : Room).slots) (s₁.setTop (entryFrame m #[(.ref a1)] 1))
  refine Goes.step ?_ (fun _ k => castTop (ef_rmNum m a1) k)
  show Goes p e below _ (sF s₁ m 0 #[rv a1] [])
  refine Goes.step ?_ (fun _ k => XS.aloadN X0.here hx rfl (hb hby d10_0) rfl rfl k)
  show Goes p e below _ (sF s₁ m 1 #[rv a1] [(.ref a1)])
  obtain ⟨T1, X1, e1, st1⟩ := initO X0 hx hZ hown (hw _ (List.mem_of_getElem? (i := 73) rfl)) (hw _ (List.mem_of_getElem? (i := 21) rfl)) (hw _ (List.mem_of_getElem? (i := 22) rfl)) e0 (g := (mkF m 1 #[rv a1] [(.ref a1)])) rfl (by rw [hml]; rfl) rfl (hb hby d10_1) (by decide) (W := 0) (by show 2 * 0 + _ ≤ _; exact Nat.le_of_eq rfl) (by decide)
  refine Goes.step ?_ st1
  show Goes p e below _ (sF T1 m 4 #[rv a1] [])
  refine own_outV X1 hx hlk hret (hb hby d10_4) ?_ (by decide) (by decide)
  show QNum h0 n0 _ T1.heap _
  rw [e1]
  exact ⟨rfl, N0, rfl⟩
theorem pn_java_lang_Integer : plainName "java/lang/Integer" = true := by first | (simp [plainName, overriddenIn]; done) | decide +kernel
theorem ef_rmInt (m : MethodId) (x0 : Addr) (x1 : Int32) : entryFrame m #[(.ref x0), (.int x1)] 2 = mkF m 0 #[rv x0, iv x1] [] := by first | (simp [entryFrame, mkF, argsToLocals, Value.category]; done) | rfl
def QInt (Z : State) (a1 : Addr) (h0 : Heap) (n0 : Nat) (v : Option Value) (h : Heap) (L : List Loc) : Prop := v = none ∧ Fr n0 L ∧ Keep h0 h [a1]
theorem d9_0 : decode jdk_33_method_23_code 0 = .ok (.aload_n 0, 1) := by decide +kernel
theorem pd__28_29V : parseMethodDescriptor "()V" = some ⟨[], none⟩ := by decide +kernel
theorem d9_1 : decode jdk_33_method_23_code 1 = .ok (.invokespecial 202, 3) := by decide +kernel
theorem d9_4 : decode jdk_33_method_23_code 4 = .ok (.aload_n 0, 1) := by decide +kernel
theorem d9_5 : decode jdk_33_method_23_code 5 = .ok (.iload_n 1, 1) := by decide +kernel
theorem d9_6 : decode jdk_33_method_23_code 6 = .ok (.putfield 205, 3) := by decide +kernel
theorem d9_9 : decode jdk_33_method_23_code 9 = .ok (.return_, 1) := by decide +kernel
set_option maxRecDepth 65536 in
set_option maxHeartbeats 40000000 in
theorem rmInt (l : Launch) (Z : State) (a0 : Array Value) (hw : ∀ d ∈ tables_1, d.before a0 Z = true) (ws : List Jvm.Cond) (a1 : Addr) (p2 : Int32) (h0 : Heap) (n0 : Nat) (Z0 : n0 ≤ h0.size) (F_v : Fld Z h0 a1 "java/lang/Integer" "value" "I" (.int (0 : Int32))) (E_a1 : Exa Z h0 a1 "java/lang/Integer") (g_a1 : n0 ≤ a1) :
    MetFree l (⟨"java/lang/Integer", "<init>", "(I)V"⟩ : MethodName) (head1 (Jvm.Cond.code (⟨"java/lang/Integer", "<init>", "(I)V"⟩ : MethodName) jdk_33_method_23_code 2 none :: ws) ({ frames := 2, cells := 0, slots := 0, locals := 24 } : Room)) (fun a U => a = #[(.ref a1), (.int p2)] ∧ Z.Warmed39 U.vm ∧ U.heap = h0) (fun _ _ _ _ _ => True) (fun _ U o U' => ∃ v L, o = .returned v ∧ QInt Z a1 h0 n0 v U'.heap L ∧ FrameEnd U o U' L ({ frames := 2, cells := 0, slots := 0, locals := 24 } : Room).cells ({ frames := 2, cells := 0, slots := 0, locals := 24 } : Room).slots) := by
  refine MetFree.of_bodySF (plainFor_of_name pn_java_lang_Integer) hisR ?_
  intro p e s m args below meth c s₁ Bd hml0 hP hK
  obtain ⟨rfl, hZ, hh⟩ := hP
  have hx := Bd.exec
  have hby := Bd.bytes
  have hlk : meth.locks = false := BodyLoose.notSynchronized Bd
  have hml : c.maxLocals = 2 := hml0
  have hown : s.vm.findClass "java/lang/Integer" = some m.cls := findClass_of_methodNamed Bd.named
  have hnm := (name_of_methodNamed Bd.named Bd.method).1
  have X0 : Stand p l e ({ frames := 2, cells := 0, slots := 0, locals := 24 } : Room) s m #[(.ref a1), (.int p2)] below meth c s₁ [] 0 0 := Stand.of_body Bd
  have e0 : s₁.heap = h0 := by rw [← hh, Bd.state]; rfl
  have N0 := Fr.nil n0
  have hret := Bd.returns
  show Goes p e below (fun o U' => ∃ v L, o = .returned v ∧ QInt Z a1 h0 n0 v U'.heap L ∧ FrameEnd s o U' L ({ frames := 2, cells := 0, slots := 0, locals := 24 } : Room).cells ({ frames := 2, cells := 0, slots := 0, locals := 24 } : Room).slots) (s₁.setTop (entryFrame m #[(.ref a1), (.int p2)] 2))
  refine Goes.step ?_ (fun _ k => castTop (ef_rmInt m a1 p2) k)
  show Goes p e below _ (sF s₁ m 0 #[rv a1, iv p2] [])
  refine Goes.step ?_ (fun _ k => XS.aloadN X0.here hx rfl (hb hby d9_0) rfl rfl k)
  show Goes p e below _ (sF s₁ m 1 #[rv a1, iv p2] [(.ref a1)])
  obtain ⟨_, _, ⟨T1, L1, k1, n1⟩, -, X1, ⟨Lc1, hQ1, l1, y1, z1⟩, st1⟩ := X0.specialBack hx (y := (⟨"java/lang/Number", "<init>", "()V"⟩ : MethodName)) rfl hown (mvT hZ (hw _ (List.mem_of_getElem? (i := 67) rfl))) (mvT hZ (hw _ (List.mem_of_getElem? (i := 68) rfl))) (mvT hZ (hw _ (List.mem_of_getElem? (i := 72) rfl))) (by decide) (backOf (W := 0) (rmNum l Z a0 hw [] a1  h0 n0 Z0 ) hZ (hw _ (List.mem_of_getElem? (i := 72) rfl)) (hw _ (List.mem_of_getElem? (i := 71) rfl)) (by decide) (by decide)) (g := (mkF m 1 #[rv a1, iv p2] [(.ref a1)])) rfl (by rw [hml]; rfl) (Steps.refl _) (a := a1) (argsL := []) (rest := []) (lenOf pd__28_29V rfl) rfl (by show 2 * 0 + _ ≤ _; exact Nat.le_of_eq rfl) (hb hby d9_1) (fun _ _ => ⟨rfl, e0, (by decide : 0 + 0 ≤ _), (by decide : 0 + 0 ≤ _)⟩)
  dsimp only [Pt.U, Pt.locs, Pt.cells, Pt.slots] at X1 l1 y1 z1 st1 hQ1
  subst l1 y1 z1
  obtain ⟨rfl, N1q, e1⟩ := hQ1
  have N1 := Fr.app N0 N1q
  refine Goes.step ?_ (fun _ k => st1.trans k)
  show Goes p e below _ (sF T1 m 4 #[rv a1, iv p2] [])
  refine Goes.step ?_ (fun _ k => XS.aloadN X1.here hx rfl (hb hby d9_4) rfl rfl k)
  show Goes p e below _ (sF T1 m 5 #[rv a1, iv p2] [(.ref a1)])
  refine Goes.step ?_ (fun _ k => XS.iloadN X1.here hx rfl (hb hby d9_5) rfl  k)
  show Goes p e below _ (sF T1 m 6 #[rv a1, iv p2] [(.int p2), (.ref a1)])
  obtain ⟨T2, h2, X2, e2, W2, st2⟩ := putF X1 hx hZ hown (host := "") (Or.inl (hw _ (List.mem_of_getElem? (i := 74) rfl))) Via.refl e1 F_v E_a1 (Or.inr ⟨(hw _ (List.mem_of_getElem? (i := 75) rfl)), rfl, hnm⟩) (hw _ (List.mem_of_getElem? (i := 62) rfl)) (ty := .int) (by decide) rfl rfl (g := (mkF m 6 #[rv a1, iv p2] [(.int p2), (.ref a1)])) rfl rfl (hb hby d9_6)
  have Fw2 := F_v.same W2
  have Zs2 : n0 ≤ h2.size := Nat.le_trans Z0 (Keep.of_wr W2).1
  have N2 := Fr.snoc X2 N1 g_a1
  refine Goes.step ?_ st2
  show Goes p e below _ (sF T2 m 9 #[rv a1, iv p2] [])
  refine own_outV X2 hx hlk hret (hb hby d9_9) ?_ (by decide) (by decide)
  show QInt Z a1 h0 n0 _ T2.heap _
  rw [e2]
  exact ⟨rfl, N2, (Keep.refl _ _).wr W2 (Or.inl (List.mem_of_getElem? (i := 0) rfl))⟩
theorem own_cidx (p : Int32) (h1 : ¬ p < (-128 : Int32)) (h2 : ¬ (127 : Int32) < p) : ¬ (p + (128 : Int32)) < 0 ∧ (p + (128 : Int32)).toNatClampNeg < 256 := by
  have e1 : (-128 : Int32).toInt = -128 := by decide
  have e2 : (127 : Int32).toInt = 127 := by decide
  have e3 : (128 : Int32).toInt = 128 := by decide
  have e4 : (0 : Int32).toInt = 0 := by decide
  have c := c_iadd p 128
  have r := rng32 (p + 128)
  rw [Int32.lt_iff_toInt_lt, e1] at h1
  rw [Int32.lt_iff_toInt_lt, e2] at h2
  rw [Int32.lt_iff_toInt_lt, e4, Int32.toNatClampNeg]
  rw [e3] at c
  omega
theorem ef_rmVal (m : MethodId) (x0 : Int32) : entryFrame m #[(.int x0)] 1 = mkF m 0 #[iv x0] [] := by first | (simp [entryFrame, mkF, argsToLocals, Value.category]; done) | rfl
def QVal (Z : State) (h0 : Heap) (n0 : Nat) (v : Option Value) (h : Heap) (L : List Loc) : Prop := ∃ r, v = some (.ref r) ∧ Fr n0 L ∧ Ext h0 h ∧ Exa Z h r "java/lang/Integer"
theorem d8_0 : decode jdk_33_method_22_code 0 = .ok (.iload_n 0, 1) := by decide +kernel
theorem d8_1 : decode jdk_33_method_22_code 1 = .ok (.bipush (-128), 2) := by decide +kernel
theorem d8_3 : decode jdk_33_method_22_code 3 = .ok (.if_icmp .lt 20, 3) := by decide +kernel
theorem d8_23 : decode jdk_33_method_22_code 23 = .ok (.new 1, 3) := by decide +kernel
theorem d8_26 : decode jdk_33_method_22_code 26 = .ok (.dup, 1) := by decide +kernel
theorem d8_27 : decode jdk_33_method_22_code 27 = .ok (.iload_n 0, 1) := by decide +kernel
theorem pd__28I_29V : parseMethodDescriptor "(I)V" = some ⟨[.int], none⟩ := by decide +kernel
theorem d8_28 : decode jdk_33_method_22_code 28 = .ok (.invokespecial 199, 3) := by decide +kernel
theorem d8_31 : decode jdk_33_method_22_code 31 = .ok (.areturn, 1) := by decide +kernel
theorem d8_6 : decode jdk_33_method_22_code 6 = .ok (.iload_n 0, 1) := by decide +kernel
theorem d8_7 : decode jdk_33_method_22_code 7 = .ok (.getstatic 191, 3) := by decide +kernel
theorem d8_10 : decode jdk_33_method_22_code 10 = .ok (.if_icmp .gt 13, 3) := by decide +kernel
theorem d8_13 : decode jdk_33_method_22_code 13 = .ok (.getstatic 195, 3) := by decide +kernel
theorem d8_16 : decode jdk_33_method_22_code 16 = .ok (.iload_n 0, 1) := by decide +kernel
theorem d8_17 : decode jdk_33_method_22_code 17 = .ok (.sipush 128, 3) := by decide +kernel
theorem d8_20 : decode jdk_33_method_22_code 20 = .ok (.iadd, 1) := by decide +kernel
theorem d8_21 : decode jdk_33_method_22_code 21 = .ok (.aaload, 1) := by decide +kernel
theorem d8_22 : decode jdk_33_method_22_code 22 = .ok (.areturn, 1) := by decide +kernel
set_option maxRecDepth 65536 in
set_option maxHeartbeats 40000000 in
theorem rmVal (l : Launch) (Z : State) (a0 : Array Value) (hw : ∀ d ∈ tables_1, d.before a0 Z = true) (ws : List Jvm.Cond) (p1 : Int32) (cc : Addr) (cl : Cell) (h0 : Heap) (n0 : Nat) (Z0 : n0 ≤ h0.size) (O0 : Old Z n0 h0) (S_high : Sta Z Z.heap "java/lang/Integer$IntegerCache" "high" "I" (.int (127 : Int32))) (S_cache : Sta Z Z.heap "java/lang/Integer$IntegerCache" "cache" "[Ljava/lang/Integer;" (.ref cc)) (Ar_cc : Arr Z Z.heap cc cl (.object "java/lang/Integer")) (Sz_cc : cl.slots.size = 256) (Hel : ∀ i, i < 256 → ∃ x, cl.slots[i]? = some (.ref x) ∧ Exa Z Z.heap x "java/lang/Integer") :
    MetFree l (⟨"java/lang/Integer", "valueOf", "(I)Ljava/lang/Integer;"⟩ : MethodName) (head1 (Jvm.Cond.code (⟨"java/lang/Integer", "valueOf", "(I)Ljava/lang/Integer;"⟩ : MethodName) jdk_33_method_22_code 1 (some (.object "java/lang/Integer")) :: ws) ({ frames := 3, cells := 1, slots := 1, locals := 38 } : Room)) (fun a U => a = #[(.int p1)] ∧ Z.Warmed39 U.vm ∧ U.heap = h0) (fun _ _ _ _ _ => True) (fun _ U o U' => ∃ v L, o = .returned v ∧ QVal Z h0 n0 v U'.heap L ∧ FrameEnd U o U' L ({ frames := 3, cells := 1, slots := 1, locals := 38 } : Room).cells ({ frames := 3, cells := 1, slots := 1, locals := 38 } : Room).slots) := by
  refine MetFree.of_bodySF (plainFor_of_name pn_java_lang_Integer) hisR ?_
  intro p e s m args below meth c s₁ Bd hml0 hP hK
  obtain ⟨rfl, hZ, hh⟩ := hP
  have hx := Bd.exec
  have hby := Bd.bytes
  have hlk : meth.locks = false := BodyLoose.notSynchronized Bd
  have hml : c.maxLocals = 1 := hml0
  have hown : s.vm.findClass "java/lang/Integer" = some m.cls := findClass_of_methodNamed Bd.named
  have hnm := (name_of_methodNamed Bd.named Bd.method).1
  have X0 : Stand p l e ({ frames := 3, cells := 1, slots := 1, locals := 38 } : Room) s m #[(.int p1)] below meth c s₁ [] 0 0 := Stand.of_body Bd
  have e0 : s₁.heap = h0 := by rw [← hh, Bd.state]; rfl
  have N0 := Fr.nil n0
  have hret := Bd.returns
  show Goes p e below (fun o U' => ∃ v L, o = .returned v ∧ QVal Z h0 n0 v U'.heap L ∧ FrameEnd s o U' L ({ frames := 3, cells := 1, slots := 1, locals := 38 } : Room).cells ({ frames := 3, cells := 1, slots := 1, locals := 38 } : Room).slots) (s₁.setTop (entryFrame m #[(.int p1)] 1))
  refine Goes.step ?_ (fun _ k => castTop (ef_rmVal m p1) k)
  show Goes p e below _ (sF s₁ m 0 #[iv p1] [])
  refine Goes.step ?_ (fun _ k => XS.iloadN X0.here hx rfl (hb hby d8_0) rfl  k)
  show Goes p e below _ (sF s₁ m 1 #[iv p1] [(.int p1)])
  refine Goes.step ?_ (fun _ k => XS.bipush X0.here hx rfl (hb hby d8_1) k)
  show Goes p e below _ (sF s₁ m 3 #[iv p1] [(.int (-128 : Int32)), (.int p1)])
  by_cases hc3_1 : p1 < (-128 : Int32)
  · refine Goes.step ?_ (fun _ k => XS.icmpYes X0.here hx rfl (pc0 := 3) (pc' := 23) rfl (hb hby d8_3) rfl (tlt hc3_1).1 (by decide) (by decide) k)
    show Goes p e below _ (sF s₁ m 23 #[iv p1] [])
    obtain ⟨T2, h2, X2, e2, E2, A2, D2, -, st2⟩ := newO X0 hx hZ hown (hw _ (List.mem_of_getElem? (i := 61) rfl)) (hw _ (List.mem_of_getElem? (i := 62) rfl)) (hw _ (List.mem_of_getElem? (i := 53) rfl)) e0 (g := (mkF m 23 #[iv p1] [])) rfl (hb hby d8_23) (by decide) (by decide)
    obtain ⟨ob2, g2⟩ : ∃ z, z = h0.size := ⟨_, rfl⟩
    rw [← g2] at A2 D2 st2
    have g_ob2 : n0 ≤ ob2 := Nat.le_trans Z0 (Nat.le_of_eq g2.symm)
    have Zs2 : n0 ≤ h2.size := Nat.le_trans Z0 E2.1
    refine Goes.step ?_ st2
    have F_value_ob2 : Fld Z h2 ob2 "java/lang/Integer" "value" "I" (.int (0 : Int32)) := D2 (Or.inr (hw _ (List.mem_of_getElem? (i := 75) rfl))) (ty := .int) (by decide)
    show Goes p e below _ (sF T2 m 26 #[iv p1] [(.ref ob2)])
    refine Goes.step ?_ (fun _ k => XS.dup X2.here hx rfl (hb hby d8_26) rfl rfl k)
    show Goes p e below _ (sF T2 m 27 #[iv p1] [(.ref ob2), (.ref ob2)])
    refine Goes.step ?_ (fun _ k => XS.iloadN X2.here hx rfl (hb hby d8_27) rfl  k)
    show Goes p e below _ (sF T2 m 28 #[iv p1] [(.int p1), (.ref ob2), (.ref ob2)])
    obtain ⟨_, _, ⟨T3, L3, k3, n3⟩, -, X3, ⟨Lc3, hQ3, l3, y3, z3⟩, st3⟩ := X2.specialBack hx (y := (⟨"java/lang/Integer", "<init>", "(I)V"⟩ : MethodName)) rfl hown (mvT hZ (hw _ (List.mem_of_getElem? (i := 63) rfl))) (mvT hZ (hw _ (List.mem_of_getElem? (i := 64) rfl))) (mvT hZ (hw _ (List.mem_of_getElem? (i := 66) rfl))) (by decide) (backOf (W := 1) (rmInt l Z a0 hw [] ob2 p1  h2 n0 Zs2 F_value_ob2 A2 g_ob2) hZ (hw _ (List.mem_of_getElem? (i := 66) rfl)) (hw _ (List.mem_of_getElem? (i := 53) rfl)) (by decide) (by decide)) (g := (mkF m 28 #[iv p1] [(.int p1), (.ref ob2), (.ref ob2)])) rfl (by rw [hml]; rfl) (Steps.refl _) (a := ob2) (argsL := [(.int p1)]) (rest := [(.ref ob2)]) (lenOf pd__28I_29V rfl) rfl (by show 2 * 0 + _ ≤ _; exact Nat.le_of_eq rfl) (hb hby d8_28) (fun _ _ => ⟨rfl, e2, (by decide : 0 + 1 + 0 ≤ _), (by decide : 0 + 1 + 0 ≤ _)⟩)
    dsimp only [Pt.U, Pt.locs, Pt.cells, Pt.slots] at X3 l3 y3 z3 st3 hQ3
    subst l3 y3 z3
    obtain ⟨rfl, N3q, K3⟩ := hQ3
    have N3 := Fr.app N0 N3q
    refine Goes.step ?_ (fun _ k => st3.trans k)
    have Zs3 : n0 ≤ T3.heap.size := Nat.le_trans Zs2 K3.1
    show Goes p e below _ (sF T3 m 31 #[iv p1] [(.ref ob2)])
    refine own_out X3 hx hlk hret rfl (Or.inr (Or.inr (Or.inr (Or.inr ⟨rfl, rfl, rfl⟩)))) (hb hby d8_31) ?_ (by decide) (by decide)
    show QVal Z h0 n0 _ T3.heap _
    exact ⟨ob2, rfl, N3, own_ext E2 K3 (Nat.le_of_eq g2.symm), A2.keep K3⟩
  · refine Goes.step ?_ (fun _ k => XS.icmpNo X0.here hx rfl (hb hby d8_3) rfl (flt hc3_1).1 k)
    show Goes p e below _ (sF s₁ m 6 #[iv p1] [])
    refine Goes.step ?_ (fun _ k => XS.iloadN X0.here hx rfl (hb hby d8_6) rfl  k)
    show Goes p e below _ (sF s₁ m 7 #[iv p1] [(.int p1)])
    obtain ⟨T4, X4, e4, st4⟩ := getS2 X0 hx hZ hown (host := "") (Or.inl (hw _ (List.mem_of_getElem? (i := 55) rfl))) Via.refl e0 (S_high.ext O0.2) (g := (mkF m 7 #[iv p1] [(.int p1)])) rfl (hb hby d8_7)
    refine Goes.step ?_ st4
    show Goes p e below _ (sF T4 m 10 #[iv p1] [(.int (127 : Int32)), (.int p1)])
    by_cases hc10_5 : (127 : Int32) < p1
    · refine Goes.step ?_ (fun _ k => XS.icmpYes X4.here hx rfl (pc0 := 10) (pc' := 23) rfl (hb hby d8_10) rfl (tlt hc10_5).2.2.1 (by decide) (by decide) k)
      show Goes p e below _ (sF T4 m 23 #[iv p1] [])
      obtain ⟨T6, h6, X6, e6, E6, A6, D6, -, st6⟩ := newO X4 hx hZ hown (hw _ (List.mem_of_getElem? (i := 61) rfl)) (hw _ (List.mem_of_getElem? (i := 62) rfl)) (hw _ (List.mem_of_getElem? (i := 53) rfl)) e4 (g := (mkF m 23 #[iv p1] [])) rfl (hb hby d8_23) (by decide) (by decide)
      obtain ⟨ob6, g6⟩ : ∃ z, z = h0.size := ⟨_, rfl⟩
      rw [← g6] at A6 D6 st6
      have g_ob6 : n0 ≤ ob6 := Nat.le_trans Z0 (Nat.le_of_eq g6.symm)
      have Zs6 : n0 ≤ h6.size := Nat.le_trans Z0 E6.1
      refine Goes.step ?_ st6
      have F_value_ob6 : Fld Z h6 ob6 "java/lang/Integer" "value" "I" (.int (0 : Int32)) := D6 (Or.inr (hw _ (List.mem_of_getElem? (i := 75) rfl))) (ty := .int) (by decide)
      show Goes p e below _ (sF T6 m 26 #[iv p1] [(.ref ob6)])
      refine Goes.step ?_ (fun _ k => XS.dup X6.here hx rfl (hb hby d8_26) rfl rfl k)
      show Goes p e below _ (sF T6 m 27 #[iv p1] [(.ref ob6), (.ref ob6)])
      refine Goes.step ?_ (fun _ k => XS.iloadN X6.here hx rfl (hb hby d8_27) rfl  k)
      show Goes p e below _ (sF T6 m 28 #[iv p1] [(.int p1), (.ref ob6), (.ref ob6)])
      obtain ⟨_, _, ⟨T7, L7, k7, n7⟩, -, X7, ⟨Lc7, hQ7, l7, y7, z7⟩, st7⟩ := X6.specialBack hx (y := (⟨"java/lang/Integer", "<init>", "(I)V"⟩ : MethodName)) rfl hown (mvT hZ (hw _ (List.mem_of_getElem? (i := 63) rfl))) (mvT hZ (hw _ (List.mem_of_getElem? (i := 64) rfl))) (mvT hZ (hw _ (List.mem_of_getElem? (i := 66) rfl))) (by decide) (backOf (W := 1) (rmInt l Z a0 hw [] ob6 p1  h6 n0 Zs6 F_value_ob6 A6 g_ob6) hZ (hw _ (List.mem_of_getElem? (i := 66) rfl)) (hw _ (List.mem_of_getElem? (i := 53) rfl)) (by decide) (by decide)) (g := (mkF m 28 #[iv p1] [(.int p1), (.ref ob6), (.ref ob6)])) rfl (by rw [hml]; rfl) (Steps.refl _) (a := ob6) (argsL := [(.int p1)]) (rest := [(.ref ob6)]) (lenOf pd__28I_29V rfl) rfl (by show 2 * 0 + _ ≤ _; exact Nat.le_of_eq rfl) (hb hby d8_28) (fun _ _ => ⟨rfl, e6, (by decide : 0 + 1 + 0 ≤ _), (by decide : 0 + 1 + 0 ≤ _)⟩)
      dsimp only [Pt.U, Pt.locs, Pt.cells, Pt.slots] at X7 l7 y7 z7 st7 hQ7
      subst l7 y7 z7
      obtain ⟨rfl, N7q, K7⟩ := hQ7
      have N7 := Fr.app N0 N7q
      refine Goes.step ?_ (fun _ k => st7.trans k)
      have Zs7 : n0 ≤ T7.heap.size := Nat.le_trans Zs6 K7.1
      show Goes p e below _ (sF T7 m 31 #[iv p1] [(.ref ob6)])
      refine own_out X7 hx hlk hret rfl (Or.inr (Or.inr (Or.inr (Or.inr ⟨rfl, rfl, rfl⟩)))) (hb hby d8_31) ?_ (by decide) (by decide)
      show QVal Z h0 n0 _ T7.heap _
      exact ⟨ob6, rfl, N7, own_ext E6 K7 (Nat.le_of_eq g6.symm), A6.keep K7⟩
    · refine Goes.step ?_ (fun _ k => XS.icmpNo X4.here hx rfl (hb hby d8_10) rfl (flt hc10_5).2.2.1 k)
      show Goes p e below _ (sF T4 m 13 #[iv p1] [])
      obtain ⟨T8, X8, e8, st8⟩ := getS2 X4 hx hZ hown (host := "") (Or.inl (hw _ (List.mem_of_getElem? (i := 57) rfl))) Via.refl e4 (S_cache.ext O0.2) (g := (mkF m 13 #[iv p1] [])) rfl (hb hby d8_13)
      refine Goes.step ?_ st8
      show Goes p e below _ (sF T8 m 16 #[iv p1] [(.ref cc)])
      refine Goes.step ?_ (fun _ k => XS.iloadN X8.here hx rfl (hb hby d8_16) rfl  k)
      show Goes p e below _ (sF T8 m 17 #[iv p1] [(.int p1), (.ref cc)])
      refine Goes.step ?_ (fun _ k => XS.sipush X8.here hx rfl (hb hby d8_17) k)
      show Goes p e below _ (sF T8 m 20 #[iv p1] [(.int (128 : Int32)), (.int p1), (.ref cc)])
      refine Goes.step ?_ (fun _ k => XS.iadd X8.here hx rfl (hb hby d8_20) rfl k)
      show Goes p e below _ (sF T8 m 21 #[iv p1] [(.int (p1 + (128 : Int32))), (.ref cc)])
      have hj := own_cidx p1 hc3_1 hc10_5
      have Arc := Ar_cc.ext O0.2
      have hin : ¬ ((p1 + (128 : Int32)) < 0 ∨ cl.slots.size ≤ ((p1 + (128 : Int32))).toNatClampNeg) := fun q => q.elim hj.1 (fun r => absurd hj.2 (Nat.not_lt.mpr (Sz_cc ▸ r)))
      obtain ⟨x, hat, Ex⟩ := Hel _ hj.2
      refine Goes.step ?_ (fun _ k => X8.aaload hx (j := (p1 + (128 : Int32))) (v := (.ref x)) (by rw [e8]; exact Arc.1) (State.isArrayOf_alike hZ.alike Arc.2.1) rfl Arc.2.2 hin hat (g := (mkF m 21 #[iv p1] [(.int (p1 + (128 : Int32))), (.ref cc)])) rfl rfl (hb hby d8_21) _ k)
      show Goes p e below _ (sF T8 m 22 #[iv p1] [(.ref x)])
      refine own_out X8 hx hlk hret rfl (Or.inr (Or.inr (Or.inr (Or.inr ⟨rfl, rfl, rfl⟩)))) (hb hby d8_22) ?_ (by decide) (by decide)
      show QVal Z h0 n0 _ T8.heap _
      rw [e8]
      exact ⟨x, rfl, N0, ⟨Nat.le_refl _, fun _ _ q => q⟩, Ex.ext O0.2⟩
def minV (x y : Int32) : Int32 := if y < x then y else x
theorem ef_rmMin (m : MethodId) (x0 : Int32) (x1 : Int32) : entryFrame m #[(.int x0), (.int x1)] 2 = mkF m 0 #[iv x0, iv x1] [] := by first | (simp [entryFrame, mkF, argsToLocals, Value.category]; done) | rfl
def QrmMin (p1 p2 : Int32) (h0 : Heap) (n0 : Nat) (v : Option Value) (h : Heap) (L : List Loc) : Prop := v = some (.int (minV p1 p2)) ∧ Fr n0 L ∧ h = h0
theorem d3_0 : decode jdk_29_method_69_code 0 = .ok (.iload_n 0, 1) := by decide +kernel
theorem d3_1 : decode jdk_29_method_69_code 1 = .ok (.iload_n 1, 1) := by decide +kernel
theorem d3_2 : decode jdk_29_method_69_code 2 = .ok (.if_icmp .gt 7, 3) := by decide +kernel
theorem d3_9 : decode jdk_29_method_69_code 9 = .ok (.iload_n 1, 1) := by decide +kernel
theorem d3_10 : decode jdk_29_method_69_code 10 = .ok (.ireturn, 1) := by decide +kernel
theorem d3_5 : decode jdk_29_method_69_code 5 = .ok (.iload_n 0, 1) := by decide +kernel
theorem d3_6 : decode jdk_29_method_69_code 6 = .ok (.goto 4, 3) := by decide +kernel
set_option maxRecDepth 65536 in
set_option maxHeartbeats 40000000 in
theorem rmMin (l : Launch) (Z : State) (a0 : Array Value) (hw : ∀ d ∈ tables_1, d.before a0 Z = true) (ws : List Jvm.Cond) (p1 : Int32) (p2 : Int32) (h0 : Heap) (n0 : Nat) (Z0 : n0 ≤ h0.size) :
    MetFree l (⟨"java/lang/Math", "min", "(II)I"⟩ : MethodName) (head1 (Jvm.Cond.code (⟨"java/lang/Math", "min", "(II)I"⟩ : MethodName) jdk_29_method_69_code 2 (some .int) :: ws) ({ frames := 0, cells := 0, slots := 0, locals := 0 } : Room)) (fun a U => a = #[(.int p1), (.int p2)] ∧ Z.Warmed39 U.vm ∧ U.heap = h0) (fun _ _ _ _ _ => True) (fun _ U o U' => ∃ v L, o = .returned v ∧ QrmMin p1 p2 h0 n0 v U'.heap L ∧ FrameEnd U o U' L ({ frames := 0, cells := 0, slots := 0, locals := 0 } : Room).cells ({ frames := 0, cells := 0, slots := 0, locals := 0 } : Room).slots) := by
  refine MetFree.of_bodySF (Jvm.Free.JP.mathPlain rfl (by decide +kernel)) hisR ?_
  intro p e s m args below meth c s₁ Bd hml0 hP hK
  obtain ⟨rfl, hZ, hh⟩ := hP
  have hx := Bd.exec
  have hby := Bd.bytes
  have hlk : meth.locks = false := BodyLoose.notSynchronized Bd
  have hml : c.maxLocals = 2 := hml0
  have hown : s.vm.findClass "java/lang/Math" = some m.cls := findClass_of_methodNamed Bd.named
  have hnm := (name_of_methodNamed Bd.named Bd.method).1
  have X0 : Stand p l e ({ frames := 0, cells := 0, slots := 0, locals := 0 } : Room) s m #[(.int p1), (.int p2)] below meth c s₁ [] 0 0 := Stand.of_body Bd
  have e0 : s₁.heap = h0 := by rw [← hh, Bd.state]; rfl
  have N0 := Fr.nil n0
  have hret := Bd.returns
  show Goes p e below (fun o U' => ∃ v L, o = .returned v ∧ QrmMin p1 p2 h0 n0 v U'.heap L ∧ FrameEnd s o U' L ({ frames := 0, cells := 0, slots := 0, locals := 0 } : Room).cells ({ frames := 0, cells := 0, slots := 0, locals := 0 } : Room).slots) (s₁.setTop (entryFrame m #[(.int p1), (.int p2)] 2))
  refine Goes.step ?_ (fun _ k => castTop (ef_rmMin m p1 p2) k)
  show Goes p e below _ (sF s₁ m 0 #[iv p1, iv p2] [])
  refine Goes.step ?_ (fun _ k => XS.iloadN X0.here hx rfl (hb hby d3_0) rfl  k)
  show Goes p e below _ (sF s₁ m 1 #[iv p1, iv p2] [(.int p1)])
  refine Goes.step ?_ (fun _ k => XS.iloadN X0.here hx rfl (hb hby d3_1) rfl  k)
  show Goes p e below _ (sF s₁ m 2 #[iv p1, iv p2] [(.int p2), (.int p1)])
  by_cases hc2_1 : p2 < p1
  · refine Goes.step ?_ (fun _ k => XS.icmpYes X0.here hx rfl (pc0 := 2) (pc' := 9) rfl (hb hby d3_2) rfl (tlt hc2_1).2.2.1 (by decide) (by decide) k)
    show Goes p e below _ (sF s₁ m 9 #[iv p1, iv p2] [])
    refine Goes.step ?_ (fun _ k => XS.iloadN X0.here hx rfl (hb hby d3_9) rfl  k)
    show Goes p e below _ (sF s₁ m 10 #[iv p1, iv p2] [(.int p2)])
    refine own_out X0 hx hlk hret rfl (Or.inl ⟨rfl, by simp, _, rfl⟩) (hb hby d3_10) ?_ (by decide) (by decide)
    show QrmMin p1 p2 h0 n0 _ s₁.heap _
    rw [e0]
    exact ⟨by simp [minV, hc2_1], N0, rfl⟩
  · refine Goes.step ?_ (fun _ k => XS.icmpNo X0.here hx rfl (hb hby d3_2) rfl (flt hc2_1).2.2.1 k)
    show Goes p e below _ (sF s₁ m 5 #[iv p1, iv p2] [])
    refine Goes.step ?_ (fun _ k => XS.iloadN X0.here hx rfl (hb hby d3_5) rfl  k)
    show Goes p e below _ (sF s₁ m 6 #[iv p1, iv p2] [(.int p1)])
    refine Goes.step ?_ (fun _ k => XS.goto X0.here hx rfl (pc0 := 6) (pc' := 10) rfl (hb hby d3_6) (by decide) (by decide) k)
    show Goes p e below _ (sF s₁ m 10 #[iv p1, iv p2] [(.int p1)])
    refine own_out X0 hx hlk hret rfl (Or.inl ⟨rfl, by simp, _, rfl⟩) (hb hby d3_10) ?_ (by decide) (by decide)
    show QrmMin p1 p2 h0 n0 _ s₁.heap _
    rw [e0]
    exact ⟨by simp [minV, hc2_1], N0, rfl⟩
def maxV (x y : Int32) : Int32 := if x < y then y else x
theorem ef_rmMax (m : MethodId) (x0 : Int32) (x1 : Int32) : entryFrame m #[(.int x0), (.int x1)] 2 = mkF m 0 #[iv x0, iv x1] [] := by first | (simp [entryFrame, mkF, argsToLocals, Value.category]; done) | rfl
def QrmMax (p1 p2 : Int32) (h0 : Heap) (n0 : Nat) (v : Option Value) (h : Heap) (L : List Loc) : Prop := v = some (.int (maxV p1 p2)) ∧ Fr n0 L ∧ h = h0
theorem d1_0 : decode jdk_29_method_65_code 0 = .ok (.iload_n 0, 1) := by decide +kernel
theorem d1_1 : decode jdk_29_method_65_code 1 = .ok (.iload_n 1, 1) := by decide +kernel
theorem d1_2 : decode jdk_29_method_65_code 2 = .ok (.if_icmp .lt 7, 3) := by decide +kernel
theorem d1_9 : decode jdk_29_method_65_code 9 = .ok (.iload_n 1, 1) := by decide +kernel
theorem d1_10 : decode jdk_29_method_65_code 10 = .ok (.ireturn, 1) := by decide +kernel
theorem d1_5 : decode jdk_29_method_65_code 5 = .ok (.iload_n 0, 1) := by decide +kernel
theorem d1_6 : decode jdk_29_method_65_code 6 = .ok (.goto 4, 3) := by decide +kernel
set_option maxRecDepth 65536 in
set_option maxHeartbeats 40000000 in
theorem rmMax (l : Launch) (Z : State) (a0 : Array Value) (hw : ∀ d ∈ tables_1, d.before a0 Z = true) (ws : List Jvm.Cond) (p1 : Int32) (p2 : Int32) (h0 : Heap) (n0 : Nat) (Z0 : n0 ≤ h0.size) :
    MetFree l (⟨"java/lang/Math", "max", "(II)I"⟩ : MethodName) (head1 (Jvm.Cond.code (⟨"java/lang/Math", "max", "(II)I"⟩ : MethodName) jdk_29_method_65_code 2 (some .int) :: ws) ({ frames := 0, cells := 0, slots := 0, locals := 0 } : Room)) (fun a U => a = #[(.int p1), (.int p2)] ∧ Z.Warmed39 U.vm ∧ U.heap = h0) (fun _ _ _ _ _ => True) (fun _ U o U' => ∃ v L, o = .returned v ∧ QrmMax p1 p2 h0 n0 v U'.heap L ∧ FrameEnd U o U' L ({ frames := 0, cells := 0, slots := 0, locals := 0 } : Room).cells ({ frames := 0, cells := 0, slots := 0, locals := 0 } : Room).slots) := by
  refine MetFree.of_bodySF (Jvm.Free.JP.mathPlain rfl (by decide +kernel)) hisR ?_
  intro p e s m args below meth c s₁ Bd hml0 hP hK
  obtain ⟨rfl, hZ, hh⟩ := hP
  have hx := Bd.exec
  have hby := Bd.bytes
  have hlk : meth.locks = false := BodyLoose.notSynchronized Bd
  have hml : c.maxLocals = 2 := hml0
  have hown : s.vm.findClass "java/lang/Math" = some m.cls := findClass_of_methodNamed Bd.named
  have hnm := (name_of_methodNamed Bd.named Bd.method).1
  have X0 : Stand p l e ({ frames := 0, cells := 0, slots := 0, locals := 0 } : Room) s m #[(.int p1), (.int p2)] below meth c s₁ [] 0 0 := Stand.of_body Bd
  have e0 : s₁.heap = h0 := by rw [← hh, Bd.state]; rfl
  have N0 := Fr.nil n0
  have hret := Bd.returns
  show Goes p e below (fun o U' => ∃ v L, o = .returned v ∧ QrmMax p1 p2 h0 n0 v U'.heap L ∧ FrameEnd s o U' L ({ frames := 0, cells := 0, slots := 0, locals := 0 } : Room).cells ({ frames := 0, cells := 0, slots := 0, locals := 0 } : Room).slots) (s₁.setTop (entryFrame m #[(.int p1), (.int p2)] 2))
  refine Goes.step ?_ (fun _ k => castTop (ef_rmMax m p1 p2) k)
  show Goes p e below _ (sF s₁ m 0 #[iv p1, iv p2] [])
  refine Goes.step ?_ (fun _ k => XS.iloadN X0.here hx rfl (hb hby d1_0) rfl  k)
  show Goes p e below _ (sF s₁ m 1 #[iv p1, iv p2] [(.int p1)])
  refine Goes.step ?_ (fun _ k => XS.iloadN X0.here hx rfl (hb hby d1_1) rfl  k)
  show Goes p e below _ (sF s₁ m 2 #[iv p1, iv p2] [(.int p2), (.int p1)])
  by_cases hc2_1 : p1 < p2
  · refine Goes.step ?_ (fun _ k => XS.icmpYes X0.here hx rfl (pc0 := 2) (pc' := 9) rfl (hb hby d1_2) rfl (tlt hc2_1).1 (by decide) (by decide) k)
    show Goes p e below _ (sF s₁ m 9 #[iv p1, iv p2] [])
    refine Goes.step ?_ (fun _ k => XS.iloadN X0.here hx rfl (hb hby d1_9) rfl  k)
    show Goes p e below _ (sF s₁ m 10 #[iv p1, iv p2] [(.int p2)])
    refine own_out X0 hx hlk hret rfl (Or.inl ⟨rfl, by simp, _, rfl⟩) (hb hby d1_10) ?_ (by decide) (by decide)
    show QrmMax p1 p2 h0 n0 _ s₁.heap _
    rw [e0]
    exact ⟨by simp [maxV, hc2_1], N0, rfl⟩
  · refine Goes.step ?_ (fun _ k => XS.icmpNo X0.here hx rfl (hb hby d1_2) rfl (flt hc2_1).1 k)
    show Goes p e below _ (sF s₁ m 5 #[iv p1, iv p2] [])
    refine Goes.step ?_ (fun _ k => XS.iloadN X0.here hx rfl (hb hby d1_5) rfl  k)
    show Goes p e below _ (sF s₁ m 6 #[iv p1, iv p2] [(.int p1)])
    refine Goes.step ?_ (fun _ k => XS.goto X0.here hx rfl (pc0 := 6) (pc' := 10) rfl (hb hby d1_6) (by decide) (by decide) k)
    show Goes p e below _ (sF s₁ m 10 #[iv p1, iv p2] [(.int p1)])
    refine own_out X0 hx hlk hret rfl (Or.inl ⟨rfl, by simp, _, rfl⟩) (hb hby d1_10) ?_ (by decide) (by decide)
    show QrmMax p1 p2 h0 n0 _ s₁.heap _
    rw [e0]
    exact ⟨by simp [maxV, hc2_1], N0, rfl⟩
def milV (x : Int64) : Int64 := ((x &&& (9223372036854775807 : Int64)) % (2592000000 : Int64)) + (1 : Int64)
theorem pn_com_example_velvet_rope_velvetrope_PenaltyPolicyEqualsPinLaw : plainName "com/example/velvet_rope/velvetrope/PenaltyPolicyEqualsPinLaw" = true := by first | (simp [plainName, overriddenIn]; done) | decide +kernel
theorem ef_rmMil (m : MethodId) (x0 : Int64) : entryFrame m #[(.long x0)] 2 = mkF m 0 #[.val (.long x0), .second] [] := by first | (simp [entryFrame, mkF, argsToLocals, Value.category]; done) | rfl
def QMil (q1 : Int64) (h0 : Heap) (n0 : Nat) (v : Option Value) (h : Heap) (L : List Loc) : Prop := v = some (.long (milV q1)) ∧ Fr n0 L ∧ h = h0
theorem d2_0 : decode method_2_code 0 = .ok (.lload_n 0, 1) := by decide +kernel
theorem d2_1 : decode method_2_code 1 = .ok (.ldc2_w 9, 3) := by decide +kernel
theorem d2_4 : decode method_2_code 4 = .ok (.land, 1) := by decide +kernel
theorem d2_5 : decode method_2_code 5 = .ok (.ldc2_w 13, 3) := by decide +kernel
theorem d2_8 : decode method_2_code 8 = .ok (.lrem, 1) := by decide +kernel
theorem d2_9 : decode method_2_code 9 = .ok (.lconst 1, 1) := by decide +kernel
theorem d2_10 : decode method_2_code 10 = .ok (.ladd, 1) := by decide +kernel
theorem d2_11 : decode method_2_code 11 = .ok (.lreturn, 1) := by decide +kernel
set_option maxRecDepth 65536 in
set_option maxHeartbeats 40000000 in
theorem rmMil (l : Launch) (Z : State) (a0 : Array Value) (hw : ∀ d ∈ tables_1, d.before a0 Z = true) (ws : List Jvm.Cond) (q1 : Int64) (h0 : Heap) (n0 : Nat) (Z0 : n0 ≤ h0.size) :
    MetFree l (⟨"com/example/velvet_rope/velvetrope/PenaltyPolicyEqualsPinLaw", "millis", "(J)J"⟩ : MethodName) (head1 (Jvm.Cond.code (⟨"com/example/velvet_rope/velvetrope/PenaltyPolicyEqualsPinLaw", "millis", "(J)J"⟩ : MethodName) method_2_code 2 (some .long) :: ws) ({ frames := 0, cells := 0, slots := 0, locals := 0 } : Room)) (fun a U => a = #[(.long q1)] ∧ Z.Warmed39 U.vm ∧ U.heap = h0) (fun _ _ _ _ _ => True) (fun _ U o U' => ∃ v L, o = .returned v ∧ QMil q1 h0 n0 v U'.heap L ∧ FrameEnd U o U' L ({ frames := 0, cells := 0, slots := 0, locals := 0 } : Room).cells ({ frames := 0, cells := 0, slots := 0, locals := 0 } : Room).slots) := by
  refine MetFree.of_bodySF (plainFor_of_name pn_com_example_velvet_rope_velvetrope_PenaltyPolicyEqualsPinLaw) hisR ?_
  intro p e s m args below meth c s₁ Bd hml0 hP hK
  obtain ⟨rfl, hZ, hh⟩ := hP
  have hx := Bd.exec
  have hby := Bd.bytes
  have hlk : meth.locks = false := BodyLoose.notSynchronized Bd
  have hml : c.maxLocals = 2 := hml0
  have hown : s.vm.findClass "com/example/velvet_rope/velvetrope/PenaltyPolicyEqualsPinLaw" = some m.cls := findClass_of_methodNamed Bd.named
  have hnm := (name_of_methodNamed Bd.named Bd.method).1
  have X0 : Stand p l e ({ frames := 0, cells := 0, slots := 0, locals := 0 } : Room) s m #[(.long q1)] below meth c s₁ [] 0 0 := Stand.of_body Bd
  have e0 : s₁.heap = h0 := by rw [← hh, Bd.state]; rfl
  have N0 := Fr.nil n0
  have hret := Bd.returns
  show Goes p e below (fun o U' => ∃ v L, o = .returned v ∧ QMil q1 h0 n0 v U'.heap L ∧ FrameEnd s o U' L ({ frames := 0, cells := 0, slots := 0, locals := 0 } : Room).cells ({ frames := 0, cells := 0, slots := 0, locals := 0 } : Room).slots) (s₁.setTop (entryFrame m #[(.long q1)] 2))
  refine Goes.step ?_ (fun _ k => castTop (ef_rmMil m q1) k)
  show Goes p e below _ (sF s₁ m 0 #[.val (.long q1), .second] [])
  refine Goes.step ?_ (fun _ k => XS.lloadN X0.here hx rfl (hb hby d2_0) rfl  k)
  show Goes p e below _ (sF s₁ m 1 #[.val (.long q1), .second] [(.long q1)])
  refine Goes.step ?_ (fun _ k => X0.ldc2J hx hown (mvT hZ (hw _ (List.mem_of_getElem? (i := 9) rfl))) rfl (hb hby d2_1) k)
  show Goes p e below _ (sF s₁ m 4 #[.val (.long q1), .second] [(.long (9223372036854775807 : Int64)), (.long q1)])
  refine Goes.step ?_ (fun _ k => XS.land X0.here hx rfl (hb hby d2_4) rfl k)
  show Goes p e below _ (sF s₁ m 5 #[.val (.long q1), .second] [(.long (q1 &&& (9223372036854775807 : Int64)))])
  refine Goes.step ?_ (fun _ k => X0.ldc2J hx hown (mvT hZ (hw _ (List.mem_of_getElem? (i := 10) rfl))) rfl (hb hby d2_5) k)
  show Goes p e below _ (sF s₁ m 8 #[.val (.long q1), .second] [(.long (2592000000 : Int64)), (.long (q1 &&& (9223372036854775807 : Int64)))])
  refine Goes.step ?_ (fun _ k => own_lrem X0 hx rfl (hb hby d2_8) rfl (by decide) k)
  show Goes p e below _ (sF s₁ m 9 #[.val (.long q1), .second] [(.long ((q1 &&& (9223372036854775807 : Int64)) % (2592000000 : Int64)))])
  refine Goes.step ?_ (fun _ k => XS.lconst X0.here hx rfl (hb hby d2_9) k)
  show Goes p e below _ (sF s₁ m 10 #[.val (.long q1), .second] [(.long (1 : Int64)), (.long ((q1 &&& (9223372036854775807 : Int64)) % (2592000000 : Int64)))])
  refine Goes.step ?_ (fun _ k => XS.ladd X0.here hx rfl (hb hby d2_10) rfl k)
  show Goes p e below _ (sF s₁ m 11 #[.val (.long q1), .second] [(.long (((q1 &&& (9223372036854775807 : Int64)) % (2592000000 : Int64)) + (1 : Int64)))])
  refine own_out X0 hx hlk hret rfl (Or.inr (Or.inl ⟨rfl, rfl, _, rfl⟩)) (hb hby d2_11) ?_ (by decide) (by decide)
  show QMil q1 h0 n0 _ s₁.heap _
  rw [e0]
  exact ⟨rfl, N0, rfl⟩
theorem pn_com_example_velvet_rope_velvetrope_PenaltyPolicy : plainName "com/example/velvet_rope/velvetrope/PenaltyPolicy" = true := by first | (simp [plainName, overriddenIn]; done) | decide +kernel
theorem ef_rmChk (m : MethodId) (x0 : Addr) (x1 : Int64) : entryFrame m #[(.ref x0), (.long x1)] 3 = mkF m 0 #[rv x0, .val (.long x1), .second] [] := by first | (simp [entryFrame, mkF, argsToLocals, Value.category]; done) | rfl
theorem d6_0 : decode prog_12_method_2_code 0 = .ok (.lload_n 1, 1) := by decide +kernel
theorem d6_1 : decode prog_12_method_2_code 1 = .ok (.lconst 1, 1) := by decide +kernel
theorem d6_2 : decode prog_12_method_2_code 2 = .ok (.lcmp, 1) := by decide +kernel
theorem d6_3 : decode prog_12_method_2_code 3 = .ok (.ifCond .lt 11, 3) := by decide +kernel
theorem d6_6 : decode prog_12_method_2_code 6 = .ok (.lload_n 1, 1) := by decide +kernel
theorem d6_7 : decode prog_12_method_2_code 7 = .ok (.ldc2_w 43, 3) := by decide +kernel
theorem d6_10 : decode prog_12_method_2_code 10 = .ok (.lcmp, 1) := by decide +kernel
theorem d6_11 : decode prog_12_method_2_code 11 = .ok (.ifCond .le 18, 3) := by decide +kernel
theorem d6_29 : decode prog_12_method_2_code 29 = .ok (.return_, 1) := by decide +kernel
set_option maxRecDepth 65536 in
set_option maxHeartbeats 40000000 in
theorem rmChk (l : Launch) (Z : State) (a0 : Array Value) (hw : ∀ d ∈ tables_1, d.before a0 Z = true) (ws : List Jvm.Cond) (a1 : Addr) (q2 : Int64) (h0 : Heap) (n0 : Nat) (Z0 : n0 ≤ h0.size) (h1 : ¬ (lcmpW q2 (1 : Int64)) < 0) (h2 : ¬ (0 : Int32) < (lcmpW q2 (2592000000 : Int64))) :
    MetFree l (⟨"com/example/velvet_rope/velvetrope/PenaltyPolicy", "checkMillis", "(Ljava/lang/String;J)V"⟩ : MethodName) (head1 (Jvm.Cond.code (⟨"com/example/velvet_rope/velvetrope/PenaltyPolicy", "checkMillis", "(Ljava/lang/String;J)V"⟩ : MethodName) prog_12_method_2_code 3 none :: ws) ({ frames := 0, cells := 0, slots := 0, locals := 0 } : Room)) (fun a U => a = #[(.ref a1), (.long q2)] ∧ Z.Warmed39 U.vm ∧ U.heap = h0) (fun _ _ _ _ _ => True) (fun _ U o U' => ∃ v L, o = .returned v ∧ QNum h0 n0 v U'.heap L ∧ FrameEnd U o U' L ({ frames := 0, cells := 0, slots := 0, locals := 0 } : Room).cells ({ frames := 0, cells := 0, slots := 0, locals := 0 } : Room).slots) := by
  refine MetFree.of_bodySF (plainFor_of_name pn_com_example_velvet_rope_velvetrope_PenaltyPolicy) hisR ?_
  intro p e s m args below meth c s₁ Bd hml0 hP hK
  obtain ⟨rfl, hZ, hh⟩ := hP
  have hx := Bd.exec
  have hby := Bd.bytes
  have hlk : meth.locks = false := BodyLoose.notSynchronized Bd
  have hml : c.maxLocals = 3 := hml0
  have hown : s.vm.findClass "com/example/velvet_rope/velvetrope/PenaltyPolicy" = some m.cls := findClass_of_methodNamed Bd.named
  have hnm := (name_of_methodNamed Bd.named Bd.method).1
  have X0 : Stand p l e ({ frames := 0, cells := 0, slots := 0, locals := 0 } : Room) s m #[(.ref a1), (.long q2)] below meth c s₁ [] 0 0 := Stand.of_body Bd
  have e0 : s₁.heap = h0 := by rw [← hh, Bd.state]; rfl
  have N0 := Fr.nil n0
  have hret := Bd.returns
  show Goes p e below (fun o U' => ∃ v L, o = .returned v ∧ QNum h0 n0 v U'.heap L ∧ FrameEnd s o U' L ({ frames := 0, cells := 0, slots := 0, locals := 0 } : Room).cells ({ frames := 0, cells := 0, slots := 0, locals := 0 } : Room).slots) (s₁.setTop (entryFrame m #[(.ref a1), (.long q2)] 3))
  refine Goes.step ?_ (fun _ k => castTop (ef_rmChk m a1 q2) k)
  show Goes p e below _ (sF s₁ m 0 #[rv a1, .val (.long q2), .second] [])
  refine Goes.step ?_ (fun _ k => XS.lloadN X0.here hx rfl (hb hby d6_0) rfl  k)
  show Goes p e below _ (sF s₁ m 1 #[rv a1, .val (.long q2), .second] [(.long q2)])
  refine Goes.step ?_ (fun _ k => XS.lconst X0.here hx rfl (hb hby d6_1) k)
  show Goes p e below _ (sF s₁ m 2 #[rv a1, .val (.long q2), .second] [(.long (1 : Int64)), (.long q2)])
  refine Goes.step ?_ (fun _ k => XS.lcmp X0.here hx rfl (hb hby d6_2) rfl k)
  show Goes p e below _ (sF s₁ m 3 #[rv a1, .val (.long q2), .second] [(.int (lcmpW q2 (1 : Int64)))])
  refine Goes.step ?_ (fun _ k => XS.ifNo X0.here hx rfl (hb hby d6_3) rfl ((if0 _ _).trans (flt h1).1) k)
  show Goes p e below _ (sF s₁ m 6 #[rv a1, .val (.long q2), .second] [])
  refine Goes.step ?_ (fun _ k => XS.lloadN X0.here hx rfl (hb hby d6_6) rfl  k)
  show Goes p e below _ (sF s₁ m 7 #[rv a1, .val (.long q2), .second] [(.long q2)])
  refine Goes.step ?_ (fun _ k => X0.ldc2J hx hown (mvT hZ (hw _ (List.mem_of_getElem? (i := 34) rfl))) rfl (hb hby d6_7) k)
  show Goes p e below _ (sF s₁ m 10 #[rv a1, .val (.long q2), .second] [(.long (2592000000 : Int64)), (.long q2)])
  refine Goes.step ?_ (fun _ k => XS.lcmp X0.here hx rfl (hb hby d6_10) rfl k)
  show Goes p e below _ (sF s₁ m 11 #[rv a1, .val (.long q2), .second] [(.int (lcmpW q2 (2592000000 : Int64)))])
  refine Goes.step ?_ (fun _ k => XS.ifYes X0.here hx rfl (pc0 := 11) (pc' := 29) rfl (hb hby d6_11) rfl ((if0 _ _).trans (flt h2).2.2.2) (by decide) (by decide) k)
  show Goes p e below _ (sF s₁ m 29 #[rv a1, .val (.long q2), .second] [])
  refine own_outV X0 hx hlk hret (hb hby d6_29) ?_ (by decide) (by decide)
  show QNum h0 n0 _ s₁.heap _
  rw [e0]
  exact ⟨rfl, N0, rfl⟩
theorem ef_rmNew (m : MethodId) (x0 : Addr) (x1 : Int32) (x2 : Int32) (x3 : Int64) (x4 : Int64) : entryFrame m #[(.ref x0), (.int x1), (.int x2), (.long x3), (.long x4)] 7 = mkF m 0 #[rv x0, iv x1, iv x2, .val (.long x3), .second, .val (.long x4), .second] [] := by first | (simp [entryFrame, mkF, argsToLocals, Value.category]; done) | rfl
def QNew (Z : State) (a1 : Addr) (p2 p3 : Int32) (q4 q5 : Int64) (h0 : Heap) (n0 : Nat) (v : Option Value) (h : Heap) (L : List Loc) : Prop := v = none ∧ Fr n0 L ∧ Keep h0 h [a1] ∧ Fld Z h a1 "com/example/velvet_rope/velvetrope/PenaltyPolicy" "warnAt" "I" (.int p2) ∧ Fld Z h a1 "com/example/velvet_rope/velvetrope/PenaltyPolicy" "banAt" "I" (.int p3) ∧ Fld Z h a1 "com/example/velvet_rope/velvetrope/PenaltyPolicy" "banMillis" "J" (.long q4) ∧ Fld Z h a1 "com/example/velvet_rope/velvetrope/PenaltyPolicy" "memoryMillis" "J" (.long q5)
theorem d4_0 : decode prog_12_method_1_code 0 = .ok (.aload_n 0, 1) := by decide +kernel
theorem d4_1 : decode prog_12_method_1_code 1 = .ok (.invokespecial 1, 3) := by decide +kernel
theorem d4_4 : decode prog_12_method_1_code 4 = .ok (.iload_n 2, 1) := by decide +kernel
theorem d4_5 : decode prog_12_method_1_code 5 = .ok (.iconst 1, 1) := by decide +kernel
theorem d4_6 : decode prog_12_method_1_code 6 = .ok (.if_icmp .ge 17, 3) := by decide +kernel
theorem d4_23 : decode prog_12_method_1_code 23 = .ok (.iload_n 1, 1) := by decide +kernel
theorem d4_24 : decode prog_12_method_1_code 24 = .ok (.iconst 1, 1) := by decide +kernel
theorem d4_25 : decode prog_12_method_1_code 25 = .ok (.if_icmp .lt 8, 3) := by decide +kernel
theorem d4_28 : decode prog_12_method_1_code 28 = .ok (.iload_n 1, 1) := by decide +kernel
theorem d4_29 : decode prog_12_method_1_code 29 = .ok (.iload_n 2, 1) := by decide +kernel
theorem d4_30 : decode prog_12_method_1_code 30 = .ok (.if_icmp .le 18, 3) := by decide +kernel
theorem d4_48 : decode prog_12_method_1_code 48 = .ok (.ldc 19, 2) := by decide +kernel
theorem d4_50 : decode prog_12_method_1_code 50 = .ok (.lload_n 3, 1) := by decide +kernel
theorem pd__28Ljava_2flang_2fString_3bJ_29V : parseMethodDescriptor "(Ljava/lang/String;J)V" = some ⟨[(.object "java/lang/String"), .long], none⟩ := by decide +kernel
theorem d4_51 : decode prog_12_method_1_code 51 = .ok (.invokestatic 21, 3) := by decide +kernel
theorem d4_54 : decode prog_12_method_1_code 54 = .ok (.ldc 27, 2) := by decide +kernel
theorem d4_56 : decode prog_12_method_1_code 56 = .ok (.lload 5, 2) := by decide +kernel
theorem d4_58 : decode prog_12_method_1_code 58 = .ok (.invokestatic 21, 3) := by decide +kernel
theorem d4_61 : decode prog_12_method_1_code 61 = .ok (.aload_n 0, 1) := by decide +kernel
theorem d4_62 : decode prog_12_method_1_code 62 = .ok (.iload_n 1, 1) := by decide +kernel
theorem d4_63 : decode prog_12_method_1_code 63 = .ok (.putfield 29, 3) := by decide +kernel
theorem d4_66 : decode prog_12_method_1_code 66 = .ok (.aload_n 0, 1) := by decide +kernel
theorem d4_67 : decode prog_12_method_1_code 67 = .ok (.iload_n 2, 1) := by decide +kernel
theorem d4_68 : decode prog_12_method_1_code 68 = .ok (.putfield 33, 3) := by decide +kernel
theorem d4_71 : decode prog_12_method_1_code 71 = .ok (.aload_n 0, 1) := by decide +kernel
theorem d4_72 : decode prog_12_method_1_code 72 = .ok (.lload_n 3, 1) := by decide +kernel
theorem d4_73 : decode prog_12_method_1_code 73 = .ok (.putfield 36, 3) := by decide +kernel
theorem d4_76 : decode prog_12_method_1_code 76 = .ok (.aload_n 0, 1) := by decide +kernel
theorem d4_77 : decode prog_12_method_1_code 77 = .ok (.lload 5, 2) := by decide +kernel
theorem d4_79 : decode prog_12_method_1_code 79 = .ok (.putfield 40, 3) := by decide +kernel
theorem d4_82 : decode prog_12_method_1_code 82 = .ok (.return_, 1) := by decide +kernel
set_option maxRecDepth 65536 in
set_option maxHeartbeats 40000000 in
theorem rmNew (l : Launch) (Z : State) (a0 : Array Value) (hw : ∀ d ∈ tables_1, d.before a0 Z = true) (ws : List Jvm.Cond) (a1 : Addr) (p2 : Int32) (p3 : Int32) (q4 : Int64) (q5 : Int64) (h0 : Heap) (n0 : Nat) (Z0 : n0 ≤ h0.size) (F_warnAt : Fld Z h0 a1 "com/example/velvet_rope/velvetrope/PenaltyPolicy" "warnAt" "I" (.int (0 : Int32))) (F_banAt : Fld Z h0 a1 "com/example/velvet_rope/velvetrope/PenaltyPolicy" "banAt" "I" (.int (0 : Int32))) (F_banMillis : Fld Z h0 a1 "com/example/velvet_rope/velvetrope/PenaltyPolicy" "banMillis" "J" (.long (0 : Int64))) (F_memoryMillis : Fld Z h0 a1 "com/example/velvet_rope/velvetrope/PenaltyPolicy" "memoryMillis" "J" (.long (0 : Int64))) (E_a1 : Exa Z h0 a1 "com/example/velvet_rope/velvetrope/PenaltyPolicy") (g_a1 : n0 ≤ a1) (h1 : ¬ p3 < 1) (h2 : ¬ p2 < 1) (h3 : ¬ p3 < p2) (c1_q4 : ¬ (lcmpW q4 (1 : Int64)) < 0) (c2_q4 : ¬ (0 : Int32) < (lcmpW q4 (2592000000 : Int64))) (c1_q5 : ¬ (lcmpW q5 (1 : Int64)) < 0) (c2_q5 : ¬ (0 : Int32) < (lcmpW q5 (2592000000 : Int64))) :
    MetFree l (⟨"com/example/velvet_rope/velvetrope/PenaltyPolicy", "<init>", "(IIJJ)V"⟩ : MethodName) (head1 (Jvm.Cond.code (⟨"com/example/velvet_rope/velvetrope/PenaltyPolicy", "<init>", "(IIJJ)V"⟩ : MethodName) prog_12_method_1_code 7 none :: ws) ({ frames := 1, cells := 4, slots := 44, locals := 14 } : Room)) (fun a U => a = #[(.ref a1), (.int p2), (.int p3), (.long q4), (.long q5)] ∧ Z.Warmed39 U.vm ∧ U.heap = h0) (fun _ _ _ _ _ => True) (fun _ U o U' => ∃ v L, o = .returned v ∧ QNew Z a1 p2 p3 q4 q5 h0 n0 v U'.heap L ∧ ReturnedEndW U o U' L ({ frames := 1, cells := 4, slots := 44, locals := 14 } : Room).cells ({ frames := 1, cells := 4, slots := 44, locals := 14 } : Room).slots) := by
  refine MetFree.of_bodySF (plainFor_of_name pn_com_example_velvet_rope_velvetrope_PenaltyPolicy) hisR ?_
  intro p e s m args below meth c s₁ Bd hml0 hP hK
  obtain ⟨rfl, hZ, hh⟩ := hP
  have hx := Bd.exec
  have hby := Bd.bytes
  have hlk : meth.locks = false := BodyLoose.notSynchronized Bd
  have hml : c.maxLocals = 7 := hml0
  have hown : s.vm.findClass "com/example/velvet_rope/velvetrope/PenaltyPolicy" = some m.cls := findClass_of_methodNamed Bd.named
  have hnm := (name_of_methodNamed Bd.named Bd.method).1
  have X0 : Stand p l e ({ frames := 1, cells := 4, slots := 44, locals := 14 } : Room) s m #[(.ref a1), (.int p2), (.int p3), (.long q4), (.long q5)] below meth c s₁ [] 0 0 := Stand.of_body Bd
  have e0 : s₁.heap = h0 := by rw [← hh, Bd.state]; rfl
  have N0 := Fr.nil n0
  have hret := Bd.returns
  show Goes p e below (fun o U' => ∃ v L, o = .returned v ∧ QNew Z a1 p2 p3 q4 q5 h0 n0 v U'.heap L ∧ ReturnedEndW s o U' L ({ frames := 1, cells := 4, slots := 44, locals := 14 } : Room).cells ({ frames := 1, cells := 4, slots := 44, locals := 14 } : Room).slots) (s₁.setTop (entryFrame m #[(.ref a1), (.int p2), (.int p3), (.long q4), (.long q5)] 7))
  refine Goes.step ?_ (fun _ k => castTop (ef_rmNew m a1 p2 p3 q4 q5) k)
  have hS : s.Since s.vm 0 := (State.WarmedH.refl s).since 0
  have hk : 0 ≤ h0.size := Nat.zero_le _
  have X0 : Stand p l e ({ frames := 1, cells := 4, slots := 44, locals := 14 } : Room) (s.setVm s.vm) m #[(.ref a1), (.int p2), (.int p3), (.long q4), (.long q5)] below meth c s₁ [] 0 0 := X0
  have hZ : Z.Warmed39 (s.setVm s.vm).vm := hZ
  have hown : (s.setVm s.vm).vm.findClass "com/example/velvet_rope/velvetrope/PenaltyPolicy" = some m.cls := hown
  have wS : ∀ a ∈ Bundle.stringAtoms, a.before a0 Z = true := fun d hd => by
    simp only [Bundle.stringAtoms, List.mem_cons, List.not_mem_nil, or_false] at hd
    rcases hd with rfl | rfl | rfl | rfl | rfl | rfl | rfl
    · exact (hw _ (List.mem_of_getElem? (i := 24) rfl))
    · exact (hw _ (List.mem_of_getElem? (i := 25) rfl))
    · exact (hw _ (List.mem_of_getElem? (i := 26) rfl))
    · exact (hw _ (List.mem_of_getElem? (i := 27) rfl))
    · exact (hw _ (List.mem_of_getElem? (i := 28) rfl))
    · exact (hw _ (List.mem_of_getElem? (i := 29) rfl))
    · exact (hw _ (List.mem_of_getElem? (i := 30) rfl))
  show Goes p e below _ (sF s₁ m 0 #[rv a1, iv p2, iv p3, .val (.long q4), .second, .val (.long q5), .second] [])
  refine Goes.step ?_ (fun _ k => XS.aloadN X0.here hx rfl (hb hby d4_0) rfl rfl k)
  show Goes p e below _ (sF s₁ m 1 #[rv a1, iv p2, iv p3, .val (.long q4), .second, .val (.long q5), .second] [(.ref a1)])
  obtain ⟨T1, X1, e1, st1⟩ := initO X0 hx hZ hown (hw _ (List.mem_of_getElem? (i := 20) rfl)) (hw _ (List.mem_of_getElem? (i := 21) rfl)) (hw _ (List.mem_of_getElem? (i := 22) rfl)) e0 (g := (mkF m 1 #[rv a1, iv p2, iv p3, .val (.long q4), .second, .val (.long q5), .second] [(.ref a1)])) rfl (by rw [hml]; rfl) rfl (hb hby d4_1) (by decide) (W := 0) (by show 2 * 0 + _ ≤ _; exact Nat.le_of_eq rfl) (by decide)
  refine Goes.step ?_ st1
  show Goes p e below _ (sF T1 m 4 #[rv a1, iv p2, iv p3, .val (.long q4), .second, .val (.long q5), .second] [])
  refine Goes.step ?_ (fun _ k => XS.iloadN X1.here hx rfl (hb hby d4_4) rfl  k)
  show Goes p e below _ (sF T1 m 5 #[rv a1, iv p2, iv p3, .val (.long q4), .second, .val (.long q5), .second] [(.int p3)])
  refine Goes.step ?_ (fun _ k => XS.iconst X1.here hx rfl (hb hby d4_5) k)
  show Goes p e below _ (sF T1 m 6 #[rv a1, iv p2, iv p3, .val (.long q4), .second, .val (.long q5), .second] [(.int (1 : Int32)), (.int p3)])
  refine Goes.step ?_ (fun _ k => XS.icmpYes X1.here hx rfl (pc0 := 6) (pc' := 23) rfl (hb hby d4_6) rfl (flt h1).2.1 (by decide) (by decide) k)
  show Goes p e below _ (sF T1 m 23 #[rv a1, iv p2, iv p3, .val (.long q4), .second, .val (.long q5), .second] [])
  refine Goes.step ?_ (fun _ k => XS.iloadN X1.here hx rfl (hb hby d4_23) rfl  k)
  show Goes p e below _ (sF T1 m 24 #[rv a1, iv p2, iv p3, .val (.long q4), .second, .val (.long q5), .second] [(.int p2)])
  refine Goes.step ?_ (fun _ k => XS.iconst X1.here hx rfl (hb hby d4_24) k)
  show Goes p e below _ (sF T1 m 25 #[rv a1, iv p2, iv p3, .val (.long q4), .second, .val (.long q5), .second] [(.int (1 : Int32)), (.int p2)])
  refine Goes.step ?_ (fun _ k => XS.icmpNo X1.here hx rfl (hb hby d4_25) rfl (flt h2).1 k)
  show Goes p e below _ (sF T1 m 28 #[rv a1, iv p2, iv p3, .val (.long q4), .second, .val (.long q5), .second] [])
  refine Goes.step ?_ (fun _ k => XS.iloadN X1.here hx rfl (hb hby d4_28) rfl  k)
  show Goes p e below _ (sF T1 m 29 #[rv a1, iv p2, iv p3, .val (.long q4), .second, .val (.long q5), .second] [(.int p2)])
  refine Goes.step ?_ (fun _ k => XS.iloadN X1.here hx rfl (hb hby d4_29) rfl  k)
  show Goes p e below _ (sF T1 m 30 #[rv a1, iv p2, iv p3, .val (.long q4), .second, .val (.long q5), .second] [(.int p3), (.int p2)])
  refine Goes.step ?_ (fun _ k => XS.icmpYes X1.here hx rfl (pc0 := 30) (pc' := 48) rfl (hb hby d4_30) rfl (flt h3).2.2.2 (by decide) (by decide) k)
  show Goes p e below _ (sF T1 m 48 #[rv a1, iv p2, iv p3, .val (.long q4), .second, .val (.long q5), .second] [])
  obtain ⟨a2, T2, h2, k2, X2, e2, E2, hS, hk, hZ, hown, st2⟩ := ldcS X1 hx hZ hown (hw _ (List.mem_of_getElem? (i := 23) rfl)) wS e1 hS hk (g := (mkF m 48 #[rv a1, iv p2, iv p3, .val (.long q4), .second, .val (.long q5), .second] [])) rfl (hb hby d4_48) (n := 12) (by decide) (by decide) (by decide) (by decide)
  have Zs2 : n0 ≤ h2.size := Nat.le_trans Z0 E2.1
  refine Goes.step ?_ st2
  show Goes p e below _ (sF T2 m 50 #[rv a1, iv p2, iv p3, .val (.long q4), .second, .val (.long q5), .second] [(.ref a2)])
  refine Goes.step ?_ (fun _ k => XS.lloadN X2.here hx rfl (hb hby d4_50) rfl  k)
  show Goes p e below _ (sF T2 m 51 #[rv a1, iv p2, iv p3, .val (.long q4), .second, .val (.long q5), .second] [(.long q4), (.ref a2)])
  obtain ⟨_, _, ⟨T3, L3, k3, n3⟩, -, X3, ⟨Lc3, hQ3, l3, y3, z3⟩, st3⟩ := Jvm.LawKit.callS X2 hx (y := (⟨"com/example/velvet_rope/velvetrope/PenaltyPolicy", "checkMillis", "(Ljava/lang/String;J)V"⟩ : MethodName)) hown (mvT hZ (hw _ (List.mem_of_getElem? (i := 31) rfl))) (mvT hZ (hw _ (List.mem_of_getElem? (i := 32) rfl))) (mvT hZ (hw _ (List.mem_of_getElem? (i := 16) rfl))) (mvT hZ (hw _ (List.mem_of_getElem? (i := 33) rfl))) (by decide) (backOf (W := 0) (rmChk l Z a0 hw [] a2 q4  h2 n0 Zs2 c1_q4 c2_q4) hZ (hw _ (List.mem_of_getElem? (i := 33) rfl)) (hw _ (List.mem_of_getElem? (i := 16) rfl)) (by decide) (by decide)) (g := (mkF m 51 #[rv a1, iv p2, iv p3, .val (.long q4), .second, .val (.long q5), .second] [(.long q4), (.ref a2)])) rfl (by rw [hml]; rfl) (argsL := [(.ref a2), (.long q4)]) (rest := []) (lenOf pd__28Ljava_2flang_2fString_3bJ_29V rfl) rfl (by show 2 * 0 + _ ≤ _; exact Nat.le_of_eq rfl) (hb hby d4_51) (fun _ _ => ⟨rfl, e2, (by decide : 0 + 2 + 0 ≤ _), (by decide : 0 + 16 + 0 ≤ _)⟩)
  dsimp only [Pt.U, Pt.locs, Pt.cells, Pt.slots] at X3 l3 y3 z3 st3 hQ3
  subst l3 y3 z3
  obtain ⟨rfl, N3q, e3⟩ := hQ3
  have N3 := Fr.app N0 N3q
  refine Goes.step ?_ st3
  show Goes p e below _ (sF T3 m 54 #[rv a1, iv p2, iv p3, .val (.long q4), .second, .val (.long q5), .second] [])
  obtain ⟨a4, T4, h4, k4, X4, e4, E4, hS, hk, hZ, hown, st4⟩ := ldcS X3 hx hZ hown (hw _ (List.mem_of_getElem? (i := 35) rfl)) wS e3 hS hk (g := (mkF m 54 #[rv a1, iv p2, iv p3, .val (.long q4), .second, .val (.long q5), .second] [])) rfl (hb hby d4_54) (n := 24) (by decide) (by decide) (by decide) (by decide)
  have Zs4 : n0 ≤ h4.size := Nat.le_trans Zs2 E4.1
  refine Goes.step ?_ st4
  show Goes p e below _ (sF T4 m 56 #[rv a1, iv p2, iv p3, .val (.long q4), .second, .val (.long q5), .second] [(.ref a4)])
  refine Goes.step ?_ (fun _ k => XS.lload X4.here hx rfl (hb hby d4_56) rfl  k)
  show Goes p e below _ (sF T4 m 58 #[rv a1, iv p2, iv p3, .val (.long q4), .second, .val (.long q5), .second] [(.long q5), (.ref a4)])
  obtain ⟨_, _, ⟨T5, L5, k5, n5⟩, -, X5, ⟨Lc5, hQ5, l5, y5, z5⟩, st5⟩ := Jvm.LawKit.callS X4 hx (y := (⟨"com/example/velvet_rope/velvetrope/PenaltyPolicy", "checkMillis", "(Ljava/lang/String;J)V"⟩ : MethodName)) hown (mvT hZ (hw _ (List.mem_of_getElem? (i := 31) rfl))) (mvT hZ (hw _ (List.mem_of_getElem? (i := 32) rfl))) (mvT hZ (hw _ (List.mem_of_getElem? (i := 16) rfl))) (mvT hZ (hw _ (List.mem_of_getElem? (i := 33) rfl))) (by decide) (backOf (W := 0) (rmChk l Z a0 hw [] a4 q5  h4 n0 Zs4 c1_q5 c2_q5) hZ (hw _ (List.mem_of_getElem? (i := 33) rfl)) (hw _ (List.mem_of_getElem? (i := 16) rfl)) (by decide) (by decide)) (g := (mkF m 58 #[rv a1, iv p2, iv p3, .val (.long q4), .second, .val (.long q5), .second] [(.long q5), (.ref a4)])) rfl (by rw [hml]; rfl) (argsL := [(.ref a4), (.long q5)]) (rest := []) (lenOf pd__28Ljava_2flang_2fString_3bJ_29V rfl) rfl (by show 2 * 0 + _ ≤ _; exact Nat.le_of_eq rfl) (hb hby d4_58) (fun _ _ => ⟨rfl, e4, (by decide : 0 + 2 + 2 + 0 ≤ _), (by decide : 0 + 16 + 28 + 0 ≤ _)⟩)
  dsimp only [Pt.U, Pt.locs, Pt.cells, Pt.slots] at X5 l5 y5 z5 st5 hQ5
  subst l5 y5 z5
  obtain ⟨rfl, N5q, e5⟩ := hQ5
  have N5 := Fr.app N3 N5q
  refine Goes.step ?_ st5
  show Goes p e below _ (sF T5 m 61 #[rv a1, iv p2, iv p3, .val (.long q4), .second, .val (.long q5), .second] [])
  refine Goes.step ?_ (fun _ k => XS.aloadN X5.here hx rfl (hb hby d4_61) rfl rfl k)
  show Goes p e below _ (sF T5 m 62 #[rv a1, iv p2, iv p3, .val (.long q4), .second, .val (.long q5), .second] [(.ref a1)])
  refine Goes.step ?_ (fun _ k => XS.iloadN X5.here hx rfl (hb hby d4_62) rfl  k)
  show Goes p e below _ (sF T5 m 63 #[rv a1, iv p2, iv p3, .val (.long q4), .second, .val (.long q5), .second] [(.int p2), (.ref a1)])
  have F_a1_warnAt_7 := ((F_warnAt.ext E2).ext E4)
  have E_a1_8 := ((E_a1.ext E2).ext E4)
  obtain ⟨T6, h6, X6, e6, W6, st6⟩ := putF X5 hx hZ hown (host := "") (Or.inl (hw _ (List.mem_of_getElem? (i := 36) rfl))) Via.refl e5 F_a1_warnAt_7 E_a1_8 (Or.inr ⟨(hw _ (List.mem_of_getElem? (i := 37) rfl)), rfl, hnm⟩) (hw _ (List.mem_of_getElem? (i := 15) rfl)) (ty := .int) (by decide) rfl rfl (g := (mkF m 63 #[rv a1, iv p2, iv p3, .val (.long q4), .second, .val (.long q5), .second] [(.int p2), (.ref a1)])) rfl rfl (hb hby d4_63)
  have Fw6 := F_a1_warnAt_7.same W6
  have hk := Nat.le_trans hk (Keep.of_wr W6).1
  have Zs6 : n0 ≤ h6.size := Nat.le_trans Zs4 (Keep.of_wr W6).1
  have N6 := Fr.snoc X6 N5 g_a1
  refine Goes.step ?_ st6
  show Goes p e below _ (sF T6 m 66 #[rv a1, iv p2, iv p3, .val (.long q4), .second, .val (.long q5), .second] [])
  refine Goes.step ?_ (fun _ k => XS.aloadN X6.here hx rfl (hb hby d4_66) rfl rfl k)
  show Goes p e below _ (sF T6 m 67 #[rv a1, iv p2, iv p3, .val (.long q4), .second, .val (.long q5), .second] [(.ref a1)])
  refine Goes.step ?_ (fun _ k => XS.iloadN X6.here hx rfl (hb hby d4_67) rfl  k)
  show Goes p e below _ (sF T6 m 68 #[rv a1, iv p2, iv p3, .val (.long q4), .second, .val (.long q5), .second] [(.int p3), (.ref a1)])
  have F_a1_banAt_10 := (((F_banAt.ext E2).ext E4).other W6 (Or.inr (slot_ne (Or.inr (hw _ (List.mem_of_getElem? (i := 39) rfl))) (Or.inr (hw _ (List.mem_of_getElem? (i := 37) rfl))) (by decide) (t := .int) (t' := .int) (by decide) (by decide))))
  have E_a1_11 := (E_a1_8.wr W6)
  obtain ⟨T9, h9, X9, e9, W9, st9⟩ := putF X6 hx hZ hown (host := "") (Or.inl (hw _ (List.mem_of_getElem? (i := 38) rfl))) Via.refl e6 F_a1_banAt_10 E_a1_11 (Or.inr ⟨(hw _ (List.mem_of_getElem? (i := 39) rfl)), rfl, hnm⟩) (hw _ (List.mem_of_getElem? (i := 15) rfl)) (ty := .int) (by decide) rfl rfl (g := (mkF m 68 #[rv a1, iv p2, iv p3, .val (.long q4), .second, .val (.long q5), .second] [(.int p3), (.ref a1)])) rfl rfl (hb hby d4_68)
  have Fw9 := F_a1_banAt_10.same W9
  have hk := Nat.le_trans hk (Keep.of_wr W9).1
  have Zs9 : n0 ≤ h9.size := Nat.le_trans Zs6 (Keep.of_wr W9).1
  have N9 := Fr.snoc X9 N6 g_a1
  refine Goes.step ?_ st9
  show Goes p e below _ (sF T9 m 71 #[rv a1, iv p2, iv p3, .val (.long q4), .second, .val (.long q5), .second] [])
  refine Goes.step ?_ (fun _ k => XS.aloadN X9.here hx rfl (hb hby d4_71) rfl rfl k)
  show Goes p e below _ (sF T9 m 72 #[rv a1, iv p2, iv p3, .val (.long q4), .second, .val (.long q5), .second] [(.ref a1)])
  refine Goes.step ?_ (fun _ k => XS.lloadN X9.here hx rfl (hb hby d4_72) rfl  k)
  show Goes p e below _ (sF T9 m 73 #[rv a1, iv p2, iv p3, .val (.long q4), .second, .val (.long q5), .second] [(.long q4), (.ref a1)])
  have F_a1_banMillis_13 := ((((F_banMillis.ext E2).ext E4).other W6 (Or.inr (slot_ne (Or.inr (hw _ (List.mem_of_getElem? (i := 41) rfl))) (Or.inr (hw _ (List.mem_of_getElem? (i := 37) rfl))) (by decide) (t := .long) (t' := .int) (by decide) (by decide)))).other W9 (Or.inr (slot_ne (Or.inr (hw _ (List.mem_of_getElem? (i := 41) rfl))) (Or.inr (hw _ (List.mem_of_getElem? (i := 39) rfl))) (by decide) (t := .long) (t' := .int) (by decide) (by decide))))
  have E_a1_14 := (E_a1_11.wr W9)
  obtain ⟨T12, h12, X12, e12, W12, st12⟩ := putF X9 hx hZ hown (host := "") (Or.inl (hw _ (List.mem_of_getElem? (i := 40) rfl))) Via.refl e9 F_a1_banMillis_13 E_a1_14 (Or.inr ⟨(hw _ (List.mem_of_getElem? (i := 41) rfl)), rfl, hnm⟩) (hw _ (List.mem_of_getElem? (i := 15) rfl)) (ty := .long) (by decide) rfl rfl (g := (mkF m 73 #[rv a1, iv p2, iv p3, .val (.long q4), .second, .val (.long q5), .second] [(.long q4), (.ref a1)])) rfl rfl (hb hby d4_73)
  have Fw12 := F_a1_banMillis_13.same W12
  have hk := Nat.le_trans hk (Keep.of_wr W12).1
  have Zs12 : n0 ≤ h12.size := Nat.le_trans Zs9 (Keep.of_wr W12).1
  have N12 := Fr.snoc X12 N9 g_a1
  refine Goes.step ?_ st12
  show Goes p e below _ (sF T12 m 76 #[rv a1, iv p2, iv p3, .val (.long q4), .second, .val (.long q5), .second] [])
  refine Goes.step ?_ (fun _ k => XS.aloadN X12.here hx rfl (hb hby d4_76) rfl rfl k)
  show Goes p e below _ (sF T12 m 77 #[rv a1, iv p2, iv p3, .val (.long q4), .second, .val (.long q5), .second] [(.ref a1)])
  refine Goes.step ?_ (fun _ k => XS.lload X12.here hx rfl (hb hby d4_77) rfl  k)
  show Goes p e below _ (sF T12 m 79 #[rv a1, iv p2, iv p3, .val (.long q4), .second, .val (.long q5), .second] [(.long q5), (.ref a1)])
  have F_a1_memoryMillis_16 := (((((F_memoryMillis.ext E2).ext E4).other W6 (Or.inr (slot_ne (Or.inr (hw _ (List.mem_of_getElem? (i := 43) rfl))) (Or.inr (hw _ (List.mem_of_getElem? (i := 37) rfl))) (by decide) (t := .long) (t' := .int) (by decide) (by decide)))).other W9 (Or.inr (slot_ne (Or.inr (hw _ (List.mem_of_getElem? (i := 43) rfl))) (Or.inr (hw _ (List.mem_of_getElem? (i := 39) rfl))) (by decide) (t := .long) (t' := .int) (by decide) (by decide)))).other W12 (Or.inr (slot_ne (Or.inr (hw _ (List.mem_of_getElem? (i := 43) rfl))) (Or.inr (hw _ (List.mem_of_getElem? (i := 41) rfl))) (by decide) (t := .long) (t' := .long) (by decide) (by decide))))
  have E_a1_17 := (E_a1_14.wr W12)
  obtain ⟨T15, h15, X15, e15, W15, st15⟩ := putF X12 hx hZ hown (host := "") (Or.inl (hw _ (List.mem_of_getElem? (i := 42) rfl))) Via.refl e12 F_a1_memoryMillis_16 E_a1_17 (Or.inr ⟨(hw _ (List.mem_of_getElem? (i := 43) rfl)), rfl, hnm⟩) (hw _ (List.mem_of_getElem? (i := 15) rfl)) (ty := .long) (by decide) rfl rfl (g := (mkF m 79 #[rv a1, iv p2, iv p3, .val (.long q4), .second, .val (.long q5), .second] [(.long q5), (.ref a1)])) rfl rfl (hb hby d4_79)
  have Fw15 := F_a1_memoryMillis_16.same W15
  have hk := Nat.le_trans hk (Keep.of_wr W15).1
  have Zs15 : n0 ≤ h15.size := Nat.le_trans Zs12 (Keep.of_wr W15).1
  have N15 := Fr.snoc X15 N12 g_a1
  refine Goes.step ?_ st15
  show Goes p e below _ (sF T15 m 82 #[rv a1, iv p2, iv p3, .val (.long q4), .second, .val (.long q5), .second] [])
  refine own_outVW X15 hS (by rw [e15]; exact hk) hx hlk hret (hb hby d4_82) ?_ (by decide) (by decide)
  show QNew Z a1 p2 p3 q4 q5 h0 n0 _ T15.heap _
  rw [e15]
  exact ⟨rfl, N15, (((((((Keep.refl _ _).ext E2).ext E4).wr W6 (Or.inl (List.mem_of_getElem? (i := 0) rfl))).wr W9 (Or.inl (List.mem_of_getElem? (i := 0) rfl))).wr W12 (Or.inl (List.mem_of_getElem? (i := 0) rfl))).wr W15 (Or.inl (List.mem_of_getElem? (i := 0) rfl))), (((Fw6.other W9 (Or.inr (slot_ne (Or.inr (hw _ (List.mem_of_getElem? (i := 37) rfl))) (Or.inr (hw _ (List.mem_of_getElem? (i := 39) rfl))) (by decide) (t := .int) (t' := .int) (by decide) (by decide)))).other W12 (Or.inr (slot_ne (Or.inr (hw _ (List.mem_of_getElem? (i := 37) rfl))) (Or.inr (hw _ (List.mem_of_getElem? (i := 41) rfl))) (by decide) (t := .int) (t' := .long) (by decide) (by decide)))).other W15 (Or.inr (slot_ne (Or.inr (hw _ (List.mem_of_getElem? (i := 37) rfl))) (Or.inr (hw _ (List.mem_of_getElem? (i := 43) rfl))) (by decide) (t := .int) (t' := .long) (by decide) (by decide)))), ((Fw9.other W12 (Or.inr (slot_ne (Or.inr (hw _ (List.mem_of_getElem? (i := 39) rfl))) (Or.inr (hw _ (List.mem_of_getElem? (i := 41) rfl))) (by decide) (t := .int) (t' := .long) (by decide) (by decide)))).other W15 (Or.inr (slot_ne (Or.inr (hw _ (List.mem_of_getElem? (i := 39) rfl))) (Or.inr (hw _ (List.mem_of_getElem? (i := 43) rfl))) (by decide) (t := .int) (t' := .long) (by decide) (by decide)))), (Fw12.other W15 (Or.inr (slot_ne (Or.inr (hw _ (List.mem_of_getElem? (i := 41) rfl))) (Or.inr (hw _ (List.mem_of_getElem? (i := 43) rfl))) (by decide) (t := .long) (t' := .long) (by decide) (by decide)))), Fw15⟩
def eqV (wa ba : Int32) (ma na : Int64) (wb bb : Int32) (mb nb : Int64) : Int32 := if wa = wb then (if ba = bb then (if lcmpW ma mb = 0 then (if lcmpW na nb = 0 then 1 else 0) else 0) else 0) else 0
theorem own_eqsym (wa ba : Int32) (ma na : Int64) (wb bb : Int32) (mb nb : Int64) : eqV wb bb mb nb wa ba ma na = eqV wa ba ma na wb bb mb nb := by
  simp only [eqV, lw_eq]
  by_cases h1 : wa = wb
  · by_cases h2 : ba = bb
    · by_cases h3 : ma = mb
      · by_cases h4 : na = nb
        · simp [h1, h2, h3, h4]
        · have h4' : ¬ nb = na := fun q => h4 q.symm
          simp [h1, h2, h3, h4, h4']
      · have h3' : ¬ mb = ma := fun q => h3 q.symm
        simp [h1, h2, h3, h3']
    · have h2' : ¬ bb = ba := fun q => h2 q.symm
      simp [h1, h2, h2']
  · have h1' : ¬ wb = wa := fun q => h1 q.symm
    simp [h1, h1']
theorem own_eqself (wa ba : Int32) (ma na : Int64) : eqV wa ba ma na wa ba ma na = 1 := by
  simp [eqV, lw_eq]
theorem ef_rmEq (m : MethodId) (x0 : Addr) (x1 : Addr) : entryFrame m #[(.ref x0), (.ref x1)] 3 = mkF m 0 #[rv x0, rv x1, .unset] [] := by first | (simp [entryFrame, mkF, argsToLocals, Value.category]; done) | rfl
def QEq (r : Int32) (h0 : Heap) (n0 : Nat) (v : Option Value) (h : Heap) (L : List Loc) : Prop := v = some (.int r) ∧ Fr n0 L ∧ h = h0
theorem d7_0 : decode prog_12_method_7_code 0 = .ok (.aload_n 1, 1) := by decide +kernel
theorem d7_1 : decode prog_12_method_7_code 1 = .ok (.instanceof 22, 3) := by decide +kernel
theorem d7_4 : decode prog_12_method_7_code 4 = .ok (.ifCond .eq 11, 3) := by decide +kernel
theorem d7_7 : decode prog_12_method_7_code 7 = .ok (.aload_n 1, 1) := by decide +kernel
theorem d7_8 : decode prog_12_method_7_code 8 = .ok (.checkcast 22, 3) := by decide +kernel
theorem d7_11 : decode prog_12_method_7_code 11 = .ok (.astore_n 2, 1) := by decide +kernel
theorem d7_12 : decode prog_12_method_7_code 12 = .ok (.goto 5, 3) := by decide +kernel
theorem d7_17 : decode prog_12_method_7_code 17 = .ok (.aload_n 0, 1) := by decide +kernel
theorem d7_18 : decode prog_12_method_7_code 18 = .ok (.getfield 29, 3) := by decide +kernel
theorem d7_21 : decode prog_12_method_7_code 21 = .ok (.aload_n 2, 1) := by decide +kernel
theorem d7_22 : decode prog_12_method_7_code 22 = .ok (.getfield 29, 3) := by decide +kernel
theorem d7_25 : decode prog_12_method_7_code 25 = .ok (.if_icmp .ne 42, 3) := by decide +kernel
theorem d7_28 : decode prog_12_method_7_code 28 = .ok (.aload_n 0, 1) := by decide +kernel
theorem d7_29 : decode prog_12_method_7_code 29 = .ok (.getfield 33, 3) := by decide +kernel
theorem d7_32 : decode prog_12_method_7_code 32 = .ok (.aload_n 2, 1) := by decide +kernel
theorem d7_33 : decode prog_12_method_7_code 33 = .ok (.getfield 33, 3) := by decide +kernel
theorem d7_36 : decode prog_12_method_7_code 36 = .ok (.if_icmp .ne 31, 3) := by decide +kernel
theorem d7_39 : decode prog_12_method_7_code 39 = .ok (.aload_n 0, 1) := by decide +kernel
theorem d7_40 : decode prog_12_method_7_code 40 = .ok (.getfield 36, 3) := by decide +kernel
theorem d7_43 : decode prog_12_method_7_code 43 = .ok (.aload_n 2, 1) := by decide +kernel
theorem d7_44 : decode prog_12_method_7_code 44 = .ok (.getfield 36, 3) := by decide +kernel
theorem d7_47 : decode prog_12_method_7_code 47 = .ok (.lcmp, 1) := by decide +kernel
theorem d7_48 : decode prog_12_method_7_code 48 = .ok (.ifCond .ne 19, 3) := by decide +kernel
theorem d7_51 : decode prog_12_method_7_code 51 = .ok (.aload_n 0, 1) := by decide +kernel
theorem d7_52 : decode prog_12_method_7_code 52 = .ok (.getfield 40, 3) := by decide +kernel
theorem d7_55 : decode prog_12_method_7_code 55 = .ok (.aload_n 2, 1) := by decide +kernel
theorem d7_56 : decode prog_12_method_7_code 56 = .ok (.getfield 40, 3) := by decide +kernel
theorem d7_59 : decode prog_12_method_7_code 59 = .ok (.lcmp, 1) := by decide +kernel
theorem d7_60 : decode prog_12_method_7_code 60 = .ok (.ifCond .ne 7, 3) := by decide +kernel
theorem d7_63 : decode prog_12_method_7_code 63 = .ok (.iconst 1, 1) := by decide +kernel
theorem d7_64 : decode prog_12_method_7_code 64 = .ok (.goto 4, 3) := by decide +kernel
theorem d7_68 : decode prog_12_method_7_code 68 = .ok (.ireturn, 1) := by decide +kernel
theorem d7_67 : decode prog_12_method_7_code 67 = .ok (.iconst 0, 1) := by decide +kernel
set_option maxRecDepth 65536 in
set_option maxHeartbeats 40000000 in
theorem rmEq (l : Launch) (Z : State) (a0 : Array Value) (hw : ∀ d ∈ tables_1, d.before a0 Z = true) (ws : List Jvm.Cond) (a1 : Addr) (a2 : Addr) (wa : Int32) (ba : Int32) (ma : Int64) (na : Int64) (wb : Int32) (bb : Int32) (mb : Int64) (nb : Int64) (r : Int32) (h0 : Heap) (n0 : Nat) (Z0 : n0 ≤ h0.size) (E_a2 : Exa Z h0 a2 "com/example/velvet_rope/velvetrope/PenaltyPolicy") (F_warnAt_a1 : Fld Z h0 a1 "com/example/velvet_rope/velvetrope/PenaltyPolicy" "warnAt" "I" (.int wa)) (F_banAt_a1 : Fld Z h0 a1 "com/example/velvet_rope/velvetrope/PenaltyPolicy" "banAt" "I" (.int ba)) (F_banMillis_a1 : Fld Z h0 a1 "com/example/velvet_rope/velvetrope/PenaltyPolicy" "banMillis" "J" (.long ma)) (F_memoryMillis_a1 : Fld Z h0 a1 "com/example/velvet_rope/velvetrope/PenaltyPolicy" "memoryMillis" "J" (.long na)) (F_warnAt_a2 : Fld Z h0 a2 "com/example/velvet_rope/velvetrope/PenaltyPolicy" "warnAt" "I" (.int wb)) (F_banAt_a2 : Fld Z h0 a2 "com/example/velvet_rope/velvetrope/PenaltyPolicy" "banAt" "I" (.int bb)) (F_banMillis_a2 : Fld Z h0 a2 "com/example/velvet_rope/velvetrope/PenaltyPolicy" "banMillis" "J" (.long mb)) (F_memoryMillis_a2 : Fld Z h0 a2 "com/example/velvet_rope/velvetrope/PenaltyPolicy" "memoryMillis" "J" (.long nb)) (hr : eqV wa ba ma na wb bb mb nb = r) :
    MetFree l (⟨"com/example/velvet_rope/velvetrope/PenaltyPolicy", "equals", "(Ljava/lang/Object;)Z"⟩ : MethodName) (head1 (Jvm.Cond.code (⟨"com/example/velvet_rope/velvetrope/PenaltyPolicy", "equals", "(Ljava/lang/Object;)Z"⟩ : MethodName) prog_12_method_7_code 3 (some .boolean) :: ws) ({ frames := 0, cells := 0, slots := 0, locals := 0 } : Room)) (fun a U => a = #[(.ref a1), (.ref a2)] ∧ Z.Warmed39 U.vm ∧ U.heap = h0) (fun _ _ _ _ _ => True) (fun _ U o U' => ∃ v L, o = .returned v ∧ QEq r h0 n0 v U'.heap L ∧ FrameEnd U o U' L ({ frames := 0, cells := 0, slots := 0, locals := 0 } : Room).cells ({ frames := 0, cells := 0, slots := 0, locals := 0 } : Room).slots) := by
  refine MetFree.of_bodySF (plainFor_of_name pn_com_example_velvet_rope_velvetrope_PenaltyPolicy) hisR ?_
  intro p e s m args below meth c s₁ Bd hml0 hP hK
  obtain ⟨rfl, hZ, hh⟩ := hP
  have hx := Bd.exec
  have hby := Bd.bytes
  have hlk : meth.locks = false := BodyLoose.notSynchronized Bd
  have hml : c.maxLocals = 3 := hml0
  have hown : s.vm.findClass "com/example/velvet_rope/velvetrope/PenaltyPolicy" = some m.cls := findClass_of_methodNamed Bd.named
  have hnm := (name_of_methodNamed Bd.named Bd.method).1
  have X0 : Stand p l e ({ frames := 0, cells := 0, slots := 0, locals := 0 } : Room) s m #[(.ref a1), (.ref a2)] below meth c s₁ [] 0 0 := Stand.of_body Bd
  have e0 : s₁.heap = h0 := by rw [← hh, Bd.state]; rfl
  have N0 := Fr.nil n0
  have hret := Bd.returns
  show Goes p e below (fun o U' => ∃ v L, o = .returned v ∧ QEq r h0 n0 v U'.heap L ∧ FrameEnd s o U' L ({ frames := 0, cells := 0, slots := 0, locals := 0 } : Room).cells ({ frames := 0, cells := 0, slots := 0, locals := 0 } : Room).slots) (s₁.setTop (entryFrame m #[(.ref a1), (.ref a2)] 3))
  refine Goes.step ?_ (fun _ k => castTop (ef_rmEq m a1 a2) k)
  show Goes p e below _ (sF s₁ m 0 #[rv a1, rv a2, .unset] [])
  refine Goes.step ?_ (fun _ k => XS.aloadN X0.here hx rfl (hb hby d7_0) rfl rfl k)
  show Goes p e below _ (sF s₁ m 1 #[rv a1, rv a2, .unset] [(.ref a2)])
  obtain ⟨T1, X1, e1, st1⟩ := instY X0 hx hZ hown (hw _ (List.mem_of_getElem? (i := 49) rfl)) e0 (Ins.self E_a2) (g := (mkF m 1 #[rv a1, rv a2, .unset] [(.ref a2)])) rfl rfl (hb hby d7_1)
  refine Goes.step ?_ st1
  show Goes p e below _ (sF T1 m 4 #[rv a1, rv a2, .unset] [(.int (1 : Int32))])
  refine Goes.step ?_ (fun _ k => XS.ifNo X1.here hx rfl (hb hby d7_4) rfl ((if0 _ _).trans (feq (by decide : ¬ ((1 : Int32) = (0 : Int32)))).1) k)
  show Goes p e below _ (sF T1 m 7 #[rv a1, rv a2, .unset] [])
  refine Goes.step ?_ (fun _ k => XS.aloadN X1.here hx rfl (hb hby d7_7) rfl rfl k)
  show Goes p e below _ (sF T1 m 8 #[rv a1, rv a2, .unset] [(.ref a2)])
  obtain ⟨T2, X2, e2, st2⟩ := castY X1 hx hZ hown (hw _ (List.mem_of_getElem? (i := 49) rfl)) e1 (Ins.self E_a2) (g := (mkF m 8 #[rv a1, rv a2, .unset] [(.ref a2)])) rfl rfl (hb hby d7_8)
  refine Goes.step ?_ st2
  show Goes p e below _ (sF T2 m 11 #[rv a1, rv a2, .unset] [(.ref a2)])
  refine Goes.step ?_ (fun _ k => XS.astoreN X2.here hx rfl (hb hby d7_11) rfl rfl (l' := #[rv a1, rv a2, rv a2]) rfl k)
  show Goes p e below _ (sF T2 m 12 #[rv a1, rv a2, rv a2] [])
  refine Goes.step ?_ (fun _ k => XS.goto X2.here hx rfl (pc0 := 12) (pc' := 17) rfl (hb hby d7_12) (by decide) (by decide) k)
  show Goes p e below _ (sF T2 m 17 #[rv a1, rv a2, rv a2] [])
  refine Goes.step ?_ (fun _ k => XS.aloadN X2.here hx rfl (hb hby d7_17) rfl rfl k)
  show Goes p e below _ (sF T2 m 18 #[rv a1, rv a2, rv a2] [(.ref a1)])
  obtain ⟨T3, X3, e3, st3⟩ := getF X2 hx hZ hown (host := "") (Or.inl (hw _ (List.mem_of_getElem? (i := 36) rfl))) Via.refl e2 F_warnAt_a1 (g := (mkF m 18 #[rv a1, rv a2, rv a2] [(.ref a1)])) rfl rfl (hb hby d7_18)
  refine Goes.step ?_ st3
  show Goes p e below _ (sF T3 m 21 #[rv a1, rv a2, rv a2] [(.int wa)])
  refine Goes.step ?_ (fun _ k => XS.aloadN X3.here hx rfl (hb hby d7_21) rfl rfl k)
  show Goes p e below _ (sF T3 m 22 #[rv a1, rv a2, rv a2] [(.ref a2), (.int wa)])
  obtain ⟨T4, X4, e4, st4⟩ := getF X3 hx hZ hown (host := "") (Or.inl (hw _ (List.mem_of_getElem? (i := 36) rfl))) Via.refl e3 F_warnAt_a2 (g := (mkF m 22 #[rv a1, rv a2, rv a2] [(.ref a2), (.int wa)])) rfl rfl (hb hby d7_22)
  refine Goes.step ?_ st4
  show Goes p e below _ (sF T4 m 25 #[rv a1, rv a2, rv a2] [(.int wb), (.int wa)])
  by_cases hc25_5 : wa = wb
  · refine Goes.step ?_ (fun _ k => XS.icmpNo X4.here hx rfl (hb hby d7_25) rfl (teq hc25_5).2 k)
    show Goes p e below _ (sF T4 m 28 #[rv a1, rv a2, rv a2] [])
    refine Goes.step ?_ (fun _ k => XS.aloadN X4.here hx rfl (hb hby d7_28) rfl rfl k)
    show Goes p e below _ (sF T4 m 29 #[rv a1, rv a2, rv a2] [(.ref a1)])
    obtain ⟨T6, X6, e6, st6⟩ := getF X4 hx hZ hown (host := "") (Or.inl (hw _ (List.mem_of_getElem? (i := 38) rfl))) Via.refl e4 F_banAt_a1 (g := (mkF m 29 #[rv a1, rv a2, rv a2] [(.ref a1)])) rfl rfl (hb hby d7_29)
    refine Goes.step ?_ st6
    show Goes p e below _ (sF T6 m 32 #[rv a1, rv a2, rv a2] [(.int ba)])
    refine Goes.step ?_ (fun _ k => XS.aloadN X6.here hx rfl (hb hby d7_32) rfl rfl k)
    show Goes p e below _ (sF T6 m 33 #[rv a1, rv a2, rv a2] [(.ref a2), (.int ba)])
    obtain ⟨T7, X7, e7, st7⟩ := getF X6 hx hZ hown (host := "") (Or.inl (hw _ (List.mem_of_getElem? (i := 38) rfl))) Via.refl e6 F_banAt_a2 (g := (mkF m 33 #[rv a1, rv a2, rv a2] [(.ref a2), (.int ba)])) rfl rfl (hb hby d7_33)
    refine Goes.step ?_ st7
    show Goes p e below _ (sF T7 m 36 #[rv a1, rv a2, rv a2] [(.int bb), (.int ba)])
    by_cases hc36_8 : ba = bb
    · refine Goes.step ?_ (fun _ k => XS.icmpNo X7.here hx rfl (hb hby d7_36) rfl (teq hc36_8).2 k)
      show Goes p e below _ (sF T7 m 39 #[rv a1, rv a2, rv a2] [])
      refine Goes.step ?_ (fun _ k => XS.aloadN X7.here hx rfl (hb hby d7_39) rfl rfl k)
      show Goes p e below _ (sF T7 m 40 #[rv a1, rv a2, rv a2] [(.ref a1)])
      obtain ⟨T9, X9, e9, st9⟩ := getF X7 hx hZ hown (host := "") (Or.inl (hw _ (List.mem_of_getElem? (i := 40) rfl))) Via.refl e7 F_banMillis_a1 (g := (mkF m 40 #[rv a1, rv a2, rv a2] [(.ref a1)])) rfl rfl (hb hby d7_40)
      refine Goes.step ?_ st9
      show Goes p e below _ (sF T9 m 43 #[rv a1, rv a2, rv a2] [(.long ma)])
      refine Goes.step ?_ (fun _ k => XS.aloadN X9.here hx rfl (hb hby d7_43) rfl rfl k)
      show Goes p e below _ (sF T9 m 44 #[rv a1, rv a2, rv a2] [(.ref a2), (.long ma)])
      obtain ⟨T10, X10, e10, st10⟩ := getF X9 hx hZ hown (host := "") (Or.inl (hw _ (List.mem_of_getElem? (i := 40) rfl))) Via.refl e9 F_banMillis_a2 (g := (mkF m 44 #[rv a1, rv a2, rv a2] [(.ref a2), (.long ma)])) rfl rfl (hb hby d7_44)
      refine Goes.step ?_ st10
      show Goes p e below _ (sF T10 m 47 #[rv a1, rv a2, rv a2] [(.long mb), (.long ma)])
      refine Goes.step ?_ (fun _ k => XS.lcmp X10.here hx rfl (hb hby d7_47) rfl k)
      show Goes p e below _ (sF T10 m 48 #[rv a1, rv a2, rv a2] [(.int (lcmpW ma mb))])
      by_cases hc48_11 : (lcmpW ma mb) = (0 : Int32)
      · refine Goes.step ?_ (fun _ k => XS.ifNo X10.here hx rfl (hb hby d7_48) rfl ((if0 _ _).trans (teq hc48_11).2) k)
        show Goes p e below _ (sF T10 m 51 #[rv a1, rv a2, rv a2] [])
        refine Goes.step ?_ (fun _ k => XS.aloadN X10.here hx rfl (hb hby d7_51) rfl rfl k)
        show Goes p e below _ (sF T10 m 52 #[rv a1, rv a2, rv a2] [(.ref a1)])
        obtain ⟨T12, X12, e12, st12⟩ := getF X10 hx hZ hown (host := "") (Or.inl (hw _ (List.mem_of_getElem? (i := 42) rfl))) Via.refl e10 F_memoryMillis_a1 (g := (mkF m 52 #[rv a1, rv a2, rv a2] [(.ref a1)])) rfl rfl (hb hby d7_52)
        refine Goes.step ?_ st12
        show Goes p e below _ (sF T12 m 55 #[rv a1, rv a2, rv a2] [(.long na)])
        refine Goes.step ?_ (fun _ k => XS.aloadN X12.here hx rfl (hb hby d7_55) rfl rfl k)
        show Goes p e below _ (sF T12 m 56 #[rv a1, rv a2, rv a2] [(.ref a2), (.long na)])
        obtain ⟨T13, X13, e13, st13⟩ := getF X12 hx hZ hown (host := "") (Or.inl (hw _ (List.mem_of_getElem? (i := 42) rfl))) Via.refl e12 F_memoryMillis_a2 (g := (mkF m 56 #[rv a1, rv a2, rv a2] [(.ref a2), (.long na)])) rfl rfl (hb hby d7_56)
        refine Goes.step ?_ st13
        show Goes p e below _ (sF T13 m 59 #[rv a1, rv a2, rv a2] [(.long nb), (.long na)])
        refine Goes.step ?_ (fun _ k => XS.lcmp X13.here hx rfl (hb hby d7_59) rfl k)
        show Goes p e below _ (sF T13 m 60 #[rv a1, rv a2, rv a2] [(.int (lcmpW na nb))])
        by_cases hc60_14 : (lcmpW na nb) = (0 : Int32)
        · refine Goes.step ?_ (fun _ k => XS.ifNo X13.here hx rfl (hb hby d7_60) rfl ((if0 _ _).trans (teq hc60_14).2) k)
          show Goes p e below _ (sF T13 m 63 #[rv a1, rv a2, rv a2] [])
          refine Goes.step ?_ (fun _ k => XS.iconst X13.here hx rfl (hb hby d7_63) k)
          show Goes p e below _ (sF T13 m 64 #[rv a1, rv a2, rv a2] [(.int (1 : Int32))])
          refine Goes.step ?_ (fun _ k => XS.goto X13.here hx rfl (pc0 := 64) (pc' := 68) rfl (hb hby d7_64) (by decide) (by decide) k)
          show Goes p e below _ (sF T13 m 68 #[rv a1, rv a2, rv a2] [(.int (1 : Int32))])
          refine own_out X13 hx hlk hret rfl (Or.inl ⟨rfl, by simp, _, rfl⟩) (hb hby d7_68) ?_ (by decide) (by decide)
          show QEq r h0 n0 _ T13.heap _
          rw [e13]
          exact ⟨by rw [← hr]; simp only [eqV, hc25_5, hc36_8, hc48_11, hc60_14, if_true, if_false], N0, rfl⟩
        · refine Goes.step ?_ (fun _ k => XS.ifYes X13.here hx rfl (pc0 := 60) (pc' := 67) rfl (hb hby d7_60) rfl ((if0 _ _).trans (feq hc60_14).2) (by decide) (by decide) k)
          show Goes p e below _ (sF T13 m 67 #[rv a1, rv a2, rv a2] [])
          refine Goes.step ?_ (fun _ k => XS.iconst X13.here hx rfl (hb hby d7_67) k)
          show Goes p e below _ (sF T13 m 68 #[rv a1, rv a2, rv a2] [(.int (0 : Int32))])
          refine own_out X13 hx hlk hret rfl (Or.inl ⟨rfl, by simp, _, rfl⟩) (hb hby d7_68) ?_ (by decide) (by decide)
          show QEq r h0 n0 _ T13.heap _
          rw [e13]
          exact ⟨by rw [← hr]; simp only [eqV, hc25_5, hc36_8, hc48_11, hc60_14, if_true, if_false], N0, rfl⟩
      · refine Goes.step ?_ (fun _ k => XS.ifYes X10.here hx rfl (pc0 := 48) (pc' := 67) rfl (hb hby d7_48) rfl ((if0 _ _).trans (feq hc48_11).2) (by decide) (by decide) k)
        show Goes p e below _ (sF T10 m 67 #[rv a1, rv a2, rv a2] [])
        refine Goes.step ?_ (fun _ k => XS.iconst X10.here hx rfl (hb hby d7_67) k)
        show Goes p e below _ (sF T10 m 68 #[rv a1, rv a2, rv a2] [(.int (0 : Int32))])
        refine own_out X10 hx hlk hret rfl (Or.inl ⟨rfl, by simp, _, rfl⟩) (hb hby d7_68) ?_ (by decide) (by decide)
        show QEq r h0 n0 _ T10.heap _
        rw [e10]
        exact ⟨by rw [← hr]; simp only [eqV, hc25_5, hc36_8, hc48_11, if_true, if_false], N0, rfl⟩
    · refine Goes.step ?_ (fun _ k => XS.icmpYes X7.here hx rfl (pc0 := 36) (pc' := 67) rfl (hb hby d7_36) rfl (feq hc36_8).2 (by decide) (by decide) k)
      show Goes p e below _ (sF T7 m 67 #[rv a1, rv a2, rv a2] [])
      refine Goes.step ?_ (fun _ k => XS.iconst X7.here hx rfl (hb hby d7_67) k)
      show Goes p e below _ (sF T7 m 68 #[rv a1, rv a2, rv a2] [(.int (0 : Int32))])
      refine own_out X7 hx hlk hret rfl (Or.inl ⟨rfl, by simp, _, rfl⟩) (hb hby d7_68) ?_ (by decide) (by decide)
      show QEq r h0 n0 _ T7.heap _
      rw [e7]
      exact ⟨by rw [← hr]; simp only [eqV, hc25_5, hc36_8, if_true, if_false], N0, rfl⟩
  · refine Goes.step ?_ (fun _ k => XS.icmpYes X4.here hx rfl (pc0 := 25) (pc' := 67) rfl (hb hby d7_25) rfl (feq hc25_5).2 (by decide) (by decide) k)
    show Goes p e below _ (sF T4 m 67 #[rv a1, rv a2, rv a2] [])
    refine Goes.step ?_ (fun _ k => XS.iconst X4.here hx rfl (hb hby d7_67) k)
    show Goes p e below _ (sF T4 m 68 #[rv a1, rv a2, rv a2] [(.int (0 : Int32))])
    refine own_out X4 hx hlk hret rfl (Or.inl ⟨rfl, by simp, _, rfl⟩) (hb hby d7_68) ?_ (by decide) (by decide)
    show QEq r h0 n0 _ T4.heap _
    rw [e4]
    exact ⟨by rw [← hr]; simp only [eqV, hc25_5, if_true, if_false], N0, rfl⟩
theorem ef_rmEqN (m : MethodId) (x0 : Addr) : entryFrame m #[(.ref x0), .null] 3 = mkF m 0 #[rv x0, .val .null, .unset] [] := by first | (simp [entryFrame, mkF, argsToLocals, Value.category]; done) | rfl
theorem d7_15 : decode prog_12_method_7_code 15 = .ok (.iconst 0, 1) := by decide +kernel
theorem d7_16 : decode prog_12_method_7_code 16 = .ok (.ireturn, 1) := by decide +kernel
set_option maxRecDepth 65536 in
set_option maxHeartbeats 40000000 in
theorem rmEqN (l : Launch) (Z : State) (a0 : Array Value) (hw : ∀ d ∈ tables_1, d.before a0 Z = true) (ws : List Jvm.Cond) (a1 : Addr) (h0 : Heap) (n0 : Nat) (Z0 : n0 ≤ h0.size) :
    MetFree l (⟨"com/example/velvet_rope/velvetrope/PenaltyPolicy", "equals", "(Ljava/lang/Object;)Z"⟩ : MethodName) (head1 (Jvm.Cond.code (⟨"com/example/velvet_rope/velvetrope/PenaltyPolicy", "equals", "(Ljava/lang/Object;)Z"⟩ : MethodName) prog_12_method_7_code 3 (some .boolean) :: ws) ({ frames := 0, cells := 0, slots := 0, locals := 0 } : Room)) (fun a U => a = #[(.ref a1), .null] ∧ Z.Warmed39 U.vm ∧ U.heap = h0) (fun _ _ _ _ _ => True) (fun _ U o U' => ∃ v L, o = .returned v ∧ QEq 0 h0 n0 v U'.heap L ∧ FrameEnd U o U' L ({ frames := 0, cells := 0, slots := 0, locals := 0 } : Room).cells ({ frames := 0, cells := 0, slots := 0, locals := 0 } : Room).slots) := by
  refine MetFree.of_bodySF (plainFor_of_name pn_com_example_velvet_rope_velvetrope_PenaltyPolicy) hisR ?_
  intro p e s m args below meth c s₁ Bd hml0 hP hK
  obtain ⟨rfl, hZ, hh⟩ := hP
  have hx := Bd.exec
  have hby := Bd.bytes
  have hlk : meth.locks = false := BodyLoose.notSynchronized Bd
  have hml : c.maxLocals = 3 := hml0
  have hown : s.vm.findClass "com/example/velvet_rope/velvetrope/PenaltyPolicy" = some m.cls := findClass_of_methodNamed Bd.named
  have hnm := (name_of_methodNamed Bd.named Bd.method).1
  have X0 : Stand p l e ({ frames := 0, cells := 0, slots := 0, locals := 0 } : Room) s m #[(.ref a1), .null] below meth c s₁ [] 0 0 := Stand.of_body Bd
  have e0 : s₁.heap = h0 := by rw [← hh, Bd.state]; rfl
  have N0 := Fr.nil n0
  have hret := Bd.returns
  show Goes p e below (fun o U' => ∃ v L, o = .returned v ∧ QEq 0 h0 n0 v U'.heap L ∧ FrameEnd s o U' L ({ frames := 0, cells := 0, slots := 0, locals := 0 } : Room).cells ({ frames := 0, cells := 0, slots := 0, locals := 0 } : Room).slots) (s₁.setTop (entryFrame m #[(.ref a1), .null] 3))
  refine Goes.step ?_ (fun _ k => castTop (ef_rmEqN m a1) k)
  show Goes p e below _ (sF s₁ m 0 #[rv a1, .val .null, .unset] [])
  refine Goes.step ?_ (fun _ k => XS.aloadN X0.here hx rfl (hb hby d7_0) rfl rfl k)
  show Goes p e below _ (sF s₁ m 1 #[rv a1, .val .null, .unset] [.null])
  refine Goes.step ?_ (fun _ k => X0.instanceofNull hx (g := (mkF m 1 #[rv a1, .val .null, .unset] [.null])) rfl rfl (hb hby d7_1) _ k)
  show Goes p e below _ (sF s₁ m 4 #[rv a1, .val .null, .unset] [(.int (0 : Int32))])
  refine Goes.step ?_ (fun _ k => XS.ifYes X0.here hx rfl (pc0 := 4) (pc' := 15) rfl (hb hby d7_4) rfl ((if0 _ _).trans (teq (by decide : (0 : Int32) = (0 : Int32))).1) (by decide) (by decide) k)
  show Goes p e below _ (sF s₁ m 15 #[rv a1, .val .null, .unset] [])
  refine Goes.step ?_ (fun _ k => XS.iconst X0.here hx rfl (hb hby d7_15) k)
  show Goes p e below _ (sF s₁ m 16 #[rv a1, .val .null, .unset] [(.int (0 : Int32))])
  refine own_out X0 hx hlk hret rfl (Or.inl ⟨rfl, by simp, _, rfl⟩) (hb hby d7_16) ?_ (by decide) (by decide)
  show QEq 0 h0 n0 _ s₁.heap _
  rw [e0]
  exact ⟨rfl, N0, rfl⟩
theorem ef_rmEqI (m : MethodId) (x0 : Addr) (x1 : Addr) : entryFrame m #[(.ref x0), (.ref x1)] 3 = mkF m 0 #[rv x0, rv x1, .unset] [] := by first | (simp [entryFrame, mkF, argsToLocals, Value.category]; done) | rfl
set_option maxRecDepth 65536 in
set_option maxHeartbeats 40000000 in
theorem rmEqI (l : Launch) (Z : State) (a0 : Array Value) (hw : ∀ d ∈ tables_1, d.before a0 Z = true) (ws : List Jvm.Cond) (a1 : Addr) (a2 : Addr) (h0 : Heap) (n0 : Nat) (Z0 : n0 ≤ h0.size) (E_a2 : Exa Z h0 a2 "java/lang/Integer") :
    MetFree l (⟨"com/example/velvet_rope/velvetrope/PenaltyPolicy", "equals", "(Ljava/lang/Object;)Z"⟩ : MethodName) (head1 (Jvm.Cond.code (⟨"com/example/velvet_rope/velvetrope/PenaltyPolicy", "equals", "(Ljava/lang/Object;)Z"⟩ : MethodName) prog_12_method_7_code 3 (some .boolean) :: ws) ({ frames := 0, cells := 0, slots := 0, locals := 0 } : Room)) (fun a U => a = #[(.ref a1), (.ref a2)] ∧ Z.Warmed39 U.vm ∧ U.heap = h0) (fun _ _ _ _ _ => True) (fun _ U o U' => ∃ v L, o = .returned v ∧ QEq 0 h0 n0 v U'.heap L ∧ FrameEnd U o U' L ({ frames := 0, cells := 0, slots := 0, locals := 0 } : Room).cells ({ frames := 0, cells := 0, slots := 0, locals := 0 } : Room).slots) := by
  refine MetFree.of_bodySF (plainFor_of_name pn_com_example_velvet_rope_velvetrope_PenaltyPolicy) hisR ?_
  intro p e s m args below meth c s₁ Bd hml0 hP hK
  obtain ⟨rfl, hZ, hh⟩ := hP
  have hx := Bd.exec
  have hby := Bd.bytes
  have hlk : meth.locks = false := BodyLoose.notSynchronized Bd
  have hml : c.maxLocals = 3 := hml0
  have hown : s.vm.findClass "com/example/velvet_rope/velvetrope/PenaltyPolicy" = some m.cls := findClass_of_methodNamed Bd.named
  have hnm := (name_of_methodNamed Bd.named Bd.method).1
  have X0 : Stand p l e ({ frames := 0, cells := 0, slots := 0, locals := 0 } : Room) s m #[(.ref a1), (.ref a2)] below meth c s₁ [] 0 0 := Stand.of_body Bd
  have e0 : s₁.heap = h0 := by rw [← hh, Bd.state]; rfl
  have N0 := Fr.nil n0
  have hret := Bd.returns
  show Goes p e below (fun o U' => ∃ v L, o = .returned v ∧ QEq 0 h0 n0 v U'.heap L ∧ FrameEnd s o U' L ({ frames := 0, cells := 0, slots := 0, locals := 0 } : Room).cells ({ frames := 0, cells := 0, slots := 0, locals := 0 } : Room).slots) (s₁.setTop (entryFrame m #[(.ref a1), (.ref a2)] 3))
  refine Goes.step ?_ (fun _ k => castTop (ef_rmEqI m a1 a2) k)
  show Goes p e below _ (sF s₁ m 0 #[rv a1, rv a2, .unset] [])
  refine Goes.step ?_ (fun _ k => XS.aloadN X0.here hx rfl (hb hby d7_0) rfl rfl k)
  show Goes p e below _ (sF s₁ m 1 #[rv a1, rv a2, .unset] [(.ref a2)])
  obtain ⟨T1, X1, e1, st1⟩ := instNo X0 hx hZ hown (hw _ (List.mem_of_getElem? (i := 49) rfl)) e0 E_a2 (own_no (hw _ (List.mem_of_getElem? (i := 58) rfl)) (hw _ (List.mem_of_getElem? (i := 15) rfl)) (NS.step (hw _ (List.mem_of_getElem? (i := 58) rfl)) (NS.step (hw _ (List.mem_of_getElem? (i := 59) rfl)) (own_NSroot (hw _ (List.mem_of_getElem? (i := 60) rfl)) (hw _ (List.mem_of_getElem? (i := 15) rfl)) (by decide)) (by decide)) (by decide)) (by decide)) (g := (mkF m 1 #[rv a1, rv a2, .unset] [(.ref a2)])) rfl rfl (hb hby d7_1)
  refine Goes.step ?_ st1
  show Goes p e below _ (sF T1 m 4 #[rv a1, rv a2, .unset] [(.int (0 : Int32))])
  refine Goes.step ?_ (fun _ k => XS.ifYes X1.here hx rfl (pc0 := 4) (pc' := 15) rfl (hb hby d7_4) rfl ((if0 _ _).trans (teq (by decide : (0 : Int32) = (0 : Int32))).1) (by decide) (by decide) k)
  show Goes p e below _ (sF T1 m 15 #[rv a1, rv a2, .unset] [])
  refine Goes.step ?_ (fun _ k => XS.iconst X1.here hx rfl (hb hby d7_15) k)
  show Goes p e below _ (sF T1 m 16 #[rv a1, rv a2, .unset] [(.int (0 : Int32))])
  refine own_out X1 hx hlk hret rfl (Or.inl ⟨rfl, by simp, _, rfl⟩) (hb hby d7_16) ?_ (by decide) (by decide)
  show QEq 0 h0 n0 _ T1.heap _
  rw [e1]
  exact ⟨rfl, N0, rfl⟩
def Q0 (n0 : Nat) (v : Option Value) (h : Heap) (L : List Loc) : Prop := v = some (.int 1) ∧ Fr n0 L
theorem pd__28Ljava_2flang_2fObject_3b_29Z : parseMethodDescriptor "(Ljava/lang/Object;)Z" = some ⟨[(.object "java/lang/Object")], some .boolean⟩ := by decide +kernel
theorem pd__28I_29Ljava_2flang_2fInteger_3b : parseMethodDescriptor "(I)Ljava/lang/Integer;" = some ⟨[.int], some (.object "java/lang/Integer")⟩ := by decide +kernel
set_option maxRecDepth 65536 in
set_option maxHeartbeats 40000000 in
theorem tail204 {p : Program} {l : Launch} {e : Env} {s : State} {m : MethodId} {args : Array Value} {below : List Frame} {meth : Method} {c : Code} {T0 : State} {locs : List Loc} {Z : State} {a0 : Array Value} {h0 : Heap} {n0 : Nat} {vm0 : Vm} {k0 : Nat} (p1 : Int32) (p2 : Int32) (p3 : Int64) (p4 : Int64) (p5 : Int32) (p6 : Int64) (w : Int32) (b : Int32) (bm : Int64) (mm : Int64) (w2 : Int32) (b2 : Int32) (bm2 : Int64) (mm2 : Int64) (o1 : Addr) (o2 : Addr) (sm : Int32) (cc : Addr) (cl : Cell)
    (X0 : Stand p l e room_1 (s.setVm vm0) m args below meth c T0 locs (1 + 4 + 1 + 4) (4 + 44 + 4 + 44)) (hx : p.tables.exec = Jvm.exec) (hZ : Z.Warmed39 (s.setVm vm0).vm) (hw : ∀ d ∈ tables_1, d.before a0 Z = true) (hby : c.code = code) (hlk : meth.locks = false) (hret : meth.sig.returnType = some .boolean) (hml : c.maxLocals = 29) (hown : (s.setVm vm0).vm.findClass "com/example/velvet_rope/velvetrope/PenaltyPolicyEqualsPinLaw" = some m.cls) (e0 : T0.heap = h0) (N0 : Fr n0 locs) (Z0 : n0 ≤ h0.size) (hS : s.Since vm0 k0) (hk : k0 ≤ h0.size) (O0 : Old Z n0 h0) (S_high : Sta Z Z.heap "java/lang/Integer$IntegerCache" "high" "I" (.int (127 : Int32))) (S_cache : Sta Z Z.heap "java/lang/Integer$IntegerCache" "cache" "[Ljava/lang/Integer;" (.ref cc)) (Ar_cc : Arr Z Z.heap cc cl (.object "java/lang/Integer")) (Sz_cc : cl.slots.size = 256) (Hel : ∀ i, i < 256 → ∃ x, cl.slots[i]? = some (.ref x) ∧ Exa Z Z.heap x "java/lang/Integer") (E_o1 : Exa Z h0 o1 "com/example/velvet_rope/velvetrope/PenaltyPolicy") (E_o2 : Exa Z h0 o2 "com/example/velvet_rope/velvetrope/PenaltyPolicy") (F_warnAt_o1 : Fld Z h0 o1 "com/example/velvet_rope/velvetrope/PenaltyPolicy" "warnAt" "I" (.int w)) (F_banAt_o1 : Fld Z h0 o1 "com/example/velvet_rope/velvetrope/PenaltyPolicy" "banAt" "I" (.int b)) (F_banMillis_o1 : Fld Z h0 o1 "com/example/velvet_rope/velvetrope/PenaltyPolicy" "banMillis" "J" (.long bm)) (F_memoryMillis_o1 : Fld Z h0 o1 "com/example/velvet_rope/velvetrope/PenaltyPolicy" "memoryMillis" "J" (.long mm)) (F_warnAt_o2 : Fld Z h0 o2 "com/example/velvet_rope/velvetrope/PenaltyPolicy" "warnAt" "I" (.int w2)) (F_banAt_o2 : Fld Z h0 o2 "com/example/velvet_rope/velvetrope/PenaltyPolicy" "banAt" "I" (.int b2)) (F_banMillis_o2 : Fld Z h0 o2 "com/example/velvet_rope/velvetrope/PenaltyPolicy" "banMillis" "J" (.long bm2)) (F_memoryMillis_o2 : Fld Z h0 o2 "com/example/velvet_rope/velvetrope/PenaltyPolicy" "memoryMillis" "J" (.long mm2)) (hsm : eqV w b bm mm w2 b2 bm2 mm2 = sm) :
    Goes p e below (fun o U' => ∃ v L, o = .returned v ∧ Q0 n0 v U'.heap L ∧ ReturnedEndW s o U' L room_1.cells room_1.slots) (T0.setTop (mkF m 204 #[iv p1, iv p2, .val (.long p3), .second, .val (.long p4), .second, iv p5, .val (.long p6), .second, iv b, iv w, .val (.long bm), .second, .val (.long mm), .second, iv b2, iv w2, .val (.long bm2), .second, .val (.long mm2), .second, rv o1, rv o2, iv sm, .unset, .unset, .unset, .unset, .unset] [])) := by
  show Goes p e below _ (sF T0 m 204 #[iv p1, iv p2, .val (.long p3), .second, .val (.long p4), .second, iv p5, .val (.long p6), .second, iv b, iv w, .val (.long bm), .second, .val (.long mm), .second, iv b2, iv w2, .val (.long bm2), .second, .val (.long mm2), .second, rv o1, rv o2, iv sm, .unset, .unset, .unset, .unset, .unset] [])
  refine Goes.step ?_ (fun _ k => XS.aload X0.here hx rfl (hb hby at_204) rfl rfl k)
  show Goes p e below _ (sF T0 m 206 #[iv p1, iv p2, .val (.long p3), .second, .val (.long p4), .second, iv p5, .val (.long p6), .second, iv b, iv w, .val (.long bm), .second, .val (.long mm), .second, iv b2, iv w2, .val (.long bm2), .second, .val (.long mm2), .second, rv o1, rv o2, iv sm, .unset, .unset, .unset, .unset, .unset] [(.ref o1)])
  refine Goes.step ?_ (fun _ k => XS.aload X0.here hx rfl (hb hby at_206) rfl rfl k)
  show Goes p e below _ (sF T0 m 208 #[iv p1, iv p2, .val (.long p3), .second, .val (.long p4), .second, iv p5, .val (.long p6), .second, iv b, iv w, .val (.long bm), .second, .val (.long mm), .second, iv b2, iv w2, .val (.long bm2), .second, .val (.long mm2), .second, rv o1, rv o2, iv sm, .unset, .unset, .unset, .unset, .unset] [(.ref o2), (.ref o1)])
  obtain ⟨cq1, kq1, q1a, q1b, q1c⟩ := isOf hZ e0 E_o1
  obtain ⟨_, _, ⟨T1, L1, k1, n1⟩, -, X1, ⟨Lc1, hQ1, l1, y1, z1⟩, st1⟩ := X0.virtualBack hx (y := (⟨"com/example/velvet_rope/velvetrope/PenaltyPolicy", "equals", "(Ljava/lang/Object;)Z"⟩ : MethodName)) (z := (⟨"com/example/velvet_rope/velvetrope/PenaltyPolicy", "equals", "(Ljava/lang/Object;)Z"⟩ : MethodName)) hown (mvT hZ (hw _ (List.mem_of_getElem? (i := 44) rfl))) (mvT hZ (hw _ (List.mem_of_getElem? (i := 45) rfl))) (notFace_of_selects (args := #[]) (mvT hZ (hw _ (List.mem_of_getElem? (i := 47) rfl)))) (mvT hZ (hw _ (List.mem_of_getElem? (i := 47) rfl))) (mvT hZ (hw _ (List.mem_of_getElem? (i := 46) rfl))) (by decide) (backOf (W := 0) (rmEq l Z a0 hw [] o1 o2 w b bm mm w2 b2 bm2 mm2 sm h0 n0 Z0 E_o2 F_warnAt_o1 F_banAt_o1 F_banMillis_o1 F_memoryMillis_o1 F_warnAt_o2 F_banAt_o2 F_banMillis_o2 F_memoryMillis_o2 hsm) hZ (hw _ (List.mem_of_getElem? (i := 48) rfl)) (hw _ (List.mem_of_getElem? (i := 16) rfl)) (by decide) (by decide)) q1a q1c (g := (mkF m 208 #[iv p1, iv p2, .val (.long p3), .second, .val (.long p4), .second, iv p5, .val (.long p6), .second, iv b, iv w, .val (.long bm), .second, .val (.long mm), .second, iv b2, iv w2, .val (.long bm2), .second, .val (.long mm2), .second, rv o1, rv o2, iv sm, .unset, .unset, .unset, .unset, .unset] [(.ref o2), (.ref o1)])) rfl (by rw [hml]; rfl) (Steps.refl _) (argsL := [(.ref o2)]) (rest := []) (lenOf pd__28Ljava_2flang_2fObject_3b_29Z rfl) rfl (by show 2 * 0 + _ ≤ _; exact Nat.le_of_eq rfl) (hb hby at_208) (fun _ _ => ⟨rfl, e0, (by decide : 1 + 4 + 1 + 4 + 0 ≤ _), (by decide : 4 + 44 + 4 + 44 + 0 ≤ _)⟩)
  dsimp only [Pt.U, Pt.locs, Pt.cells, Pt.slots] at X1 l1 y1 z1 st1 hQ1
  subst l1 y1 z1
  obtain ⟨rfl, N1q, e1⟩ := hQ1
  have N1 := Fr.app N0 N1q
  refine Goes.step ?_ (fun _ k => st1.trans k)
  show Goes p e below _ (sF T1 m 211 #[iv p1, iv p2, .val (.long p3), .second, .val (.long p4), .second, iv p5, .val (.long p6), .second, iv b, iv w, .val (.long bm), .second, .val (.long mm), .second, iv b2, iv w2, .val (.long bm2), .second, .val (.long mm2), .second, rv o1, rv o2, iv sm, .unset, .unset, .unset, .unset, .unset] [(.int sm)])
  refine Goes.step ?_ (fun _ k => XS.istore X1.here hx rfl (hb hby at_211) rfl (l' := #[iv p1, iv p2, .val (.long p3), .second, .val (.long p4), .second, iv p5, .val (.long p6), .second, iv b, iv w, .val (.long bm), .second, .val (.long mm), .second, iv b2, iv w2, .val (.long bm2), .second, .val (.long mm2), .second, rv o1, rv o2, iv sm, iv sm, .unset, .unset, .unset, .unset]) rfl k)
  show Goes p e below _ (sF T1 m 213 #[iv p1, iv p2, .val (.long p3), .second, .val (.long p4), .second, iv p5, .val (.long p6), .second, iv b, iv w, .val (.long bm), .second, .val (.long mm), .second, iv b2, iv w2, .val (.long bm2), .second, .val (.long mm2), .second, rv o1, rv o2, iv sm, iv sm, .unset, .unset, .unset, .unset] [])
  refine Goes.step ?_ (fun _ k => XS.aload X1.here hx rfl (hb hby at_213) rfl rfl k)
  show Goes p e below _ (sF T1 m 215 #[iv p1, iv p2, .val (.long p3), .second, .val (.long p4), .second, iv p5, .val (.long p6), .second, iv b, iv w, .val (.long bm), .second, .val (.long mm), .second, iv b2, iv w2, .val (.long bm2), .second, .val (.long mm2), .second, rv o1, rv o2, iv sm, iv sm, .unset, .unset, .unset, .unset] [(.ref o2)])
  refine Goes.step ?_ (fun _ k => XS.aload X1.here hx rfl (hb hby at_215) rfl rfl k)
  show Goes p e below _ (sF T1 m 217 #[iv p1, iv p2, .val (.long p3), .second, .val (.long p4), .second, iv p5, .val (.long p6), .second, iv b, iv w, .val (.long bm), .second, .val (.long mm), .second, iv b2, iv w2, .val (.long bm2), .second, .val (.long mm2), .second, rv o1, rv o2, iv sm, iv sm, .unset, .unset, .unset, .unset] [(.ref o1), (.ref o2)])
  obtain ⟨cq2, kq2, q2a, q2b, q2c⟩ := isOf hZ e1 E_o2
  obtain ⟨_, _, ⟨T2, L2, k2, n2⟩, -, X2, ⟨Lc2, hQ2, l2, y2, z2⟩, st2⟩ := X1.virtualBack hx (y := (⟨"com/example/velvet_rope/velvetrope/PenaltyPolicy", "equals", "(Ljava/lang/Object;)Z"⟩ : MethodName)) (z := (⟨"com/example/velvet_rope/velvetrope/PenaltyPolicy", "equals", "(Ljava/lang/Object;)Z"⟩ : MethodName)) hown (mvT hZ (hw _ (List.mem_of_getElem? (i := 44) rfl))) (mvT hZ (hw _ (List.mem_of_getElem? (i := 45) rfl))) (notFace_of_selects (args := #[]) (mvT hZ (hw _ (List.mem_of_getElem? (i := 47) rfl)))) (mvT hZ (hw _ (List.mem_of_getElem? (i := 47) rfl))) (mvT hZ (hw _ (List.mem_of_getElem? (i := 46) rfl))) (by decide) (backOf (W := 0) (rmEq l Z a0 hw [] o2 o1 w2 b2 bm2 mm2 w b bm mm sm h0 n0 Z0 E_o1 F_warnAt_o2 F_banAt_o2 F_banMillis_o2 F_memoryMillis_o2 F_warnAt_o1 F_banAt_o1 F_banMillis_o1 F_memoryMillis_o1 ((own_eqsym _ _ _ _ _ _ _ _).trans hsm)) hZ (hw _ (List.mem_of_getElem? (i := 48) rfl)) (hw _ (List.mem_of_getElem? (i := 16) rfl)) (by decide) (by decide)) q2a q2c (g := (mkF m 217 #[iv p1, iv p2, .val (.long p3), .second, .val (.long p4), .second, iv p5, .val (.long p6), .second, iv b, iv w, .val (.long bm), .second, .val (.long mm), .second, iv b2, iv w2, .val (.long bm2), .second, .val (.long mm2), .second, rv o1, rv o2, iv sm, iv sm, .unset, .unset, .unset, .unset] [(.ref o1), (.ref o2)])) rfl (by rw [hml]; rfl) (Steps.refl _) (argsL := [(.ref o1)]) (rest := []) (lenOf pd__28Ljava_2flang_2fObject_3b_29Z rfl) rfl (by show 2 * 0 + _ ≤ _; exact Nat.le_of_eq rfl) (hb hby at_217) (fun _ _ => ⟨rfl, e1, (by decide : 1 + 4 + 1 + 4 + 0 ≤ _), (by decide : 4 + 44 + 4 + 44 + 0 ≤ _)⟩)
  dsimp only [Pt.U, Pt.locs, Pt.cells, Pt.slots] at X2 l2 y2 z2 st2 hQ2
  subst l2 y2 z2
  obtain ⟨rfl, N2q, e2⟩ := hQ2
  have N2 := Fr.app N1 N2q
  refine Goes.step ?_ (fun _ k => st2.trans k)
  show Goes p e below _ (sF T2 m 220 #[iv p1, iv p2, .val (.long p3), .second, .val (.long p4), .second, iv p5, .val (.long p6), .second, iv b, iv w, .val (.long bm), .second, .val (.long mm), .second, iv b2, iv w2, .val (.long bm2), .second, .val (.long mm2), .second, rv o1, rv o2, iv sm, iv sm, .unset, .unset, .unset, .unset] [(.int sm)])
  refine Goes.step ?_ (fun _ k => XS.istore X2.here hx rfl (hb hby at_220) rfl (l' := #[iv p1, iv p2, .val (.long p3), .second, .val (.long p4), .second, iv p5, .val (.long p6), .second, iv b, iv w, .val (.long bm), .second, .val (.long mm), .second, iv b2, iv w2, .val (.long bm2), .second, .val (.long mm2), .second, rv o1, rv o2, iv sm, iv sm, iv sm, .unset, .unset, .unset]) rfl k)
  show Goes p e below _ (sF T2 m 222 #[iv p1, iv p2, .val (.long p3), .second, .val (.long p4), .second, iv p5, .val (.long p6), .second, iv b, iv w, .val (.long bm), .second, .val (.long mm), .second, iv b2, iv w2, .val (.long bm2), .second, .val (.long mm2), .second, rv o1, rv o2, iv sm, iv sm, iv sm, .unset, .unset, .unset] [])
  refine Goes.step ?_ (fun _ k => XS.aload X2.here hx rfl (hb hby at_222) rfl rfl k)
  show Goes p e below _ (sF T2 m 224 #[iv p1, iv p2, .val (.long p3), .second, .val (.long p4), .second, iv p5, .val (.long p6), .second, iv b, iv w, .val (.long bm), .second, .val (.long mm), .second, iv b2, iv w2, .val (.long bm2), .second, .val (.long mm2), .second, rv o1, rv o2, iv sm, iv sm, iv sm, .unset, .unset, .unset] [(.ref o1)])
  refine Goes.step ?_ (fun _ k => XS.aload X2.here hx rfl (hb hby at_224) rfl rfl k)
  show Goes p e below _ (sF T2 m 226 #[iv p1, iv p2, .val (.long p3), .second, .val (.long p4), .second, iv p5, .val (.long p6), .second, iv b, iv w, .val (.long bm), .second, .val (.long mm), .second, iv b2, iv w2, .val (.long bm2), .second, .val (.long mm2), .second, rv o1, rv o2, iv sm, iv sm, iv sm, .unset, .unset, .unset] [(.ref o1), (.ref o1)])
  obtain ⟨cq3, kq3, q3a, q3b, q3c⟩ := isOf hZ e2 E_o1
  obtain ⟨_, _, ⟨T3, L3, k3, n3⟩, -, X3, ⟨Lc3, hQ3, l3, y3, z3⟩, st3⟩ := X2.virtualBack hx (y := (⟨"com/example/velvet_rope/velvetrope/PenaltyPolicy", "equals", "(Ljava/lang/Object;)Z"⟩ : MethodName)) (z := (⟨"com/example/velvet_rope/velvetrope/PenaltyPolicy", "equals", "(Ljava/lang/Object;)Z"⟩ : MethodName)) hown (mvT hZ (hw _ (List.mem_of_getElem? (i := 44) rfl))) (mvT hZ (hw _ (List.mem_of_getElem? (i := 45) rfl))) (notFace_of_selects (args := #[]) (mvT hZ (hw _ (List.mem_of_getElem? (i := 47) rfl)))) (mvT hZ (hw _ (List.mem_of_getElem? (i := 47) rfl))) (mvT hZ (hw _ (List.mem_of_getElem? (i := 46) rfl))) (by decide) (backOf (W := 0) (rmEq l Z a0 hw [] o1 o1 w b bm mm w b bm mm (1 : Int32) h0 n0 Z0 E_o1 F_warnAt_o1 F_banAt_o1 F_banMillis_o1 F_memoryMillis_o1 F_warnAt_o1 F_banAt_o1 F_banMillis_o1 F_memoryMillis_o1 (own_eqself _ _ _ _)) hZ (hw _ (List.mem_of_getElem? (i := 48) rfl)) (hw _ (List.mem_of_getElem? (i := 16) rfl)) (by decide) (by decide)) q3a q3c (g := (mkF m 226 #[iv p1, iv p2, .val (.long p3), .second, .val (.long p4), .second, iv p5, .val (.long p6), .second, iv b, iv w, .val (.long bm), .second, .val (.long mm), .second, iv b2, iv w2, .val (.long bm2), .second, .val (.long mm2), .second, rv o1, rv o2, iv sm, iv sm, iv sm, .unset, .unset, .unset] [(.ref o1), (.ref o1)])) rfl (by rw [hml]; rfl) (Steps.refl _) (argsL := [(.ref o1)]) (rest := []) (lenOf pd__28Ljava_2flang_2fObject_3b_29Z rfl) rfl (by show 2 * 0 + _ ≤ _; exact Nat.le_of_eq rfl) (hb hby at_226) (fun _ _ => ⟨rfl, e2, (by decide : 1 + 4 + 1 + 4 + 0 ≤ _), (by decide : 4 + 44 + 4 + 44 + 0 ≤ _)⟩)
  dsimp only [Pt.U, Pt.locs, Pt.cells, Pt.slots] at X3 l3 y3 z3 st3 hQ3
  subst l3 y3 z3
  obtain ⟨rfl, N3q, e3⟩ := hQ3
  have N3 := Fr.app N2 N3q
  refine Goes.step ?_ (fun _ k => st3.trans k)
  show Goes p e below _ (sF T3 m 229 #[iv p1, iv p2, .val (.long p3), .second, .val (.long p4), .second, iv p5, .val (.long p6), .second, iv b, iv w, .val (.long bm), .second, .val (.long mm), .second, iv b2, iv w2, .val (.long bm2), .second, .val (.long mm2), .second, rv o1, rv o2, iv sm, iv sm, iv sm, .unset, .unset, .unset] [(.int (1 : Int32))])
  refine Goes.step ?_ (fun _ k => XS.istore X3.here hx rfl (hb hby at_229) rfl (l' := #[iv p1, iv p2, .val (.long p3), .second, .val (.long p4), .second, iv p5, .val (.long p6), .second, iv b, iv w, .val (.long bm), .second, .val (.long mm), .second, iv b2, iv w2, .val (.long bm2), .second, .val (.long mm2), .second, rv o1, rv o2, iv sm, iv sm, iv sm, iv (1 : Int32), .unset, .unset]) rfl k)
  show Goes p e below _ (sF T3 m 231 #[iv p1, iv p2, .val (.long p3), .second, .val (.long p4), .second, iv p5, .val (.long p6), .second, iv b, iv w, .val (.long bm), .second, .val (.long mm), .second, iv b2, iv w2, .val (.long bm2), .second, .val (.long mm2), .second, rv o1, rv o2, iv sm, iv sm, iv sm, iv (1 : Int32), .unset, .unset] [])
  refine Goes.step ?_ (fun _ k => XS.aload X3.here hx rfl (hb hby at_231) rfl rfl k)
  show Goes p e below _ (sF T3 m 233 #[iv p1, iv p2, .val (.long p3), .second, .val (.long p4), .second, iv p5, .val (.long p6), .second, iv b, iv w, .val (.long bm), .second, .val (.long mm), .second, iv b2, iv w2, .val (.long bm2), .second, .val (.long mm2), .second, rv o1, rv o2, iv sm, iv sm, iv sm, iv (1 : Int32), .unset, .unset] [(.ref o1)])
  refine Goes.step ?_ (fun _ k => XS.aconstNull X3.here hx rfl (hb hby at_233) k)
  show Goes p e below _ (sF T3 m 234 #[iv p1, iv p2, .val (.long p3), .second, .val (.long p4), .second, iv p5, .val (.long p6), .second, iv b, iv w, .val (.long bm), .second, .val (.long mm), .second, iv b2, iv w2, .val (.long bm2), .second, .val (.long mm2), .second, rv o1, rv o2, iv sm, iv sm, iv sm, iv (1 : Int32), .unset, .unset] [.null, (.ref o1)])
  obtain ⟨cq4, kq4, q4a, q4b, q4c⟩ := isOf hZ e3 E_o1
  obtain ⟨_, _, ⟨T4, L4, k4, n4⟩, -, X4, ⟨Lc4, hQ4, l4, y4, z4⟩, st4⟩ := X3.virtualBack hx (y := (⟨"com/example/velvet_rope/velvetrope/PenaltyPolicy", "equals", "(Ljava/lang/Object;)Z"⟩ : MethodName)) (z := (⟨"com/example/velvet_rope/velvetrope/PenaltyPolicy", "equals", "(Ljava/lang/Object;)Z"⟩ : MethodName)) hown (mvT hZ (hw _ (List.mem_of_getElem? (i := 44) rfl))) (mvT hZ (hw _ (List.mem_of_getElem? (i := 45) rfl))) (notFace_of_selects (args := #[]) (mvT hZ (hw _ (List.mem_of_getElem? (i := 47) rfl)))) (mvT hZ (hw _ (List.mem_of_getElem? (i := 47) rfl))) (mvT hZ (hw _ (List.mem_of_getElem? (i := 46) rfl))) (by decide) (backOf (W := 0) (rmEqN l Z a0 hw [] o1  h0 n0 Z0 ) hZ (hw _ (List.mem_of_getElem? (i := 48) rfl)) (hw _ (List.mem_of_getElem? (i := 16) rfl)) (by decide) (by decide)) q4a q4c (g := (mkF m 234 #[iv p1, iv p2, .val (.long p3), .second, .val (.long p4), .second, iv p5, .val (.long p6), .second, iv b, iv w, .val (.long bm), .second, .val (.long mm), .second, iv b2, iv w2, .val (.long bm2), .second, .val (.long mm2), .second, rv o1, rv o2, iv sm, iv sm, iv sm, iv (1 : Int32), .unset, .unset] [.null, (.ref o1)])) rfl (by rw [hml]; rfl) (Steps.refl _) (argsL := [.null]) (rest := []) (lenOf pd__28Ljava_2flang_2fObject_3b_29Z rfl) rfl (by show 2 * 0 + _ ≤ _; exact Nat.le_of_eq rfl) (hb hby at_234) (fun _ _ => ⟨rfl, e3, (by decide : 1 + 4 + 1 + 4 + 0 ≤ _), (by decide : 4 + 44 + 4 + 44 + 0 ≤ _)⟩)
  dsimp only [Pt.U, Pt.locs, Pt.cells, Pt.slots] at X4 l4 y4 z4 st4 hQ4
  subst l4 y4 z4
  obtain ⟨rfl, N4q, e4⟩ := hQ4
  have N4 := Fr.app N3 N4q
  refine Goes.step ?_ (fun _ k => st4.trans k)
  show Goes p e below _ (sF T4 m 237 #[iv p1, iv p2, .val (.long p3), .second, .val (.long p4), .second, iv p5, .val (.long p6), .second, iv b, iv w, .val (.long bm), .second, .val (.long mm), .second, iv b2, iv w2, .val (.long bm2), .second, .val (.long mm2), .second, rv o1, rv o2, iv sm, iv sm, iv sm, iv (1 : Int32), .unset, .unset] [(.int (0 : Int32))])
  refine Goes.step ?_ (fun _ k => XS.istore X4.here hx rfl (hb hby at_237) rfl (l' := #[iv p1, iv p2, .val (.long p3), .second, .val (.long p4), .second, iv p5, .val (.long p6), .second, iv b, iv w, .val (.long bm), .second, .val (.long mm), .second, iv b2, iv w2, .val (.long bm2), .second, .val (.long mm2), .second, rv o1, rv o2, iv sm, iv sm, iv sm, iv (1 : Int32), iv (0 : Int32), .unset]) rfl k)
  show Goes p e below _ (sF T4 m 239 #[iv p1, iv p2, .val (.long p3), .second, .val (.long p4), .second, iv p5, .val (.long p6), .second, iv b, iv w, .val (.long bm), .second, .val (.long mm), .second, iv b2, iv w2, .val (.long bm2), .second, .val (.long mm2), .second, rv o1, rv o2, iv sm, iv sm, iv sm, iv (1 : Int32), iv (0 : Int32), .unset] [])
  refine Goes.step ?_ (fun _ k => XS.aload X4.here hx rfl (hb hby at_239) rfl rfl k)
  show Goes p e below _ (sF T4 m 241 #[iv p1, iv p2, .val (.long p3), .second, .val (.long p4), .second, iv p5, .val (.long p6), .second, iv b, iv w, .val (.long bm), .second, .val (.long mm), .second, iv b2, iv w2, .val (.long bm2), .second, .val (.long mm2), .second, rv o1, rv o2, iv sm, iv sm, iv sm, iv (1 : Int32), iv (0 : Int32), .unset] [(.ref o1)])
  refine Goes.step ?_ (fun _ k => XS.iload X4.here hx rfl (hb hby at_241) rfl  k)
  show Goes p e below _ (sF T4 m 243 #[iv p1, iv p2, .val (.long p3), .second, .val (.long p4), .second, iv p5, .val (.long p6), .second, iv b, iv w, .val (.long bm), .second, .val (.long mm), .second, iv b2, iv w2, .val (.long bm2), .second, .val (.long mm2), .second, rv o1, rv o2, iv sm, iv sm, iv sm, iv (1 : Int32), iv (0 : Int32), .unset] [(.int w), (.ref o1)])
  obtain ⟨_, _, ⟨T5, L5, k5, n5⟩, -, X5, ⟨Lc5, hQ5, l5, y5, z5⟩, st5⟩ := Jvm.LawKit.callS X4 hx (y := (⟨"java/lang/Integer", "valueOf", "(I)Ljava/lang/Integer;"⟩ : MethodName)) hown (mvT hZ (hw _ (List.mem_of_getElem? (i := 51) rfl))) (mvT hZ (hw _ (List.mem_of_getElem? (i := 52) rfl))) (mvT hZ (hw _ (List.mem_of_getElem? (i := 53) rfl))) (mvT hZ (hw _ (List.mem_of_getElem? (i := 54) rfl))) (by decide) (backOf (W := 1) (rmVal l Z a0 hw [] w cc cl h0 n0 Z0 O0 S_high S_cache Ar_cc Sz_cc Hel) hZ (hw _ (List.mem_of_getElem? (i := 54) rfl)) (hw _ (List.mem_of_getElem? (i := 53) rfl)) (by decide) (by decide)) (g := (mkF m 243 #[iv p1, iv p2, .val (.long p3), .second, .val (.long p4), .second, iv p5, .val (.long p6), .second, iv b, iv w, .val (.long bm), .second, .val (.long mm), .second, iv b2, iv w2, .val (.long bm2), .second, .val (.long mm2), .second, rv o1, rv o2, iv sm, iv sm, iv sm, iv (1 : Int32), iv (0 : Int32), .unset] [(.int w), (.ref o1)])) rfl (by rw [hml]; rfl) (argsL := [(.int w)]) (rest := [(.ref o1)]) (lenOf pd__28I_29Ljava_2flang_2fInteger_3b rfl) rfl (by show 2 * 0 + _ ≤ _; exact Nat.le_of_eq rfl) (hb hby at_243) (fun _ _ => ⟨rfl, e4, (by decide : 1 + 4 + 1 + 4 + 1 ≤ _), (by decide : 4 + 44 + 4 + 44 + 1 ≤ _)⟩)
  dsimp only [Pt.U, Pt.locs, Pt.cells, Pt.slots] at X5 l5 y5 z5 st5 hQ5
  subst l5 y5 z5
  obtain ⟨r5, rfl, N5q, E5, A5⟩ := hQ5
  have N5 := Fr.app N4 N5q
  refine Goes.step ?_ st5
  have hk := Nat.le_trans hk E5.1
  have Zs5 : n0 ≤ T5.heap.size := Nat.le_trans Z0 E5.1
  show Goes p e below _ (sF T5 m 246 #[iv p1, iv p2, .val (.long p3), .second, .val (.long p4), .second, iv p5, .val (.long p6), .second, iv b, iv w, .val (.long bm), .second, .val (.long mm), .second, iv b2, iv w2, .val (.long bm2), .second, .val (.long mm2), .second, rv o1, rv o2, iv sm, iv sm, iv sm, iv (1 : Int32), iv (0 : Int32), .unset] [(.ref r5), (.ref o1)])
  have E_o1_7 := (E_o1.ext E5)
  obtain ⟨cq6, kq6, q6a, q6b, q6c⟩ := isOf hZ rfl E_o1_7
  obtain ⟨_, _, ⟨T6, L6, k6, n6⟩, -, X6, ⟨Lc6, hQ6, l6, y6, z6⟩, st6⟩ := X5.virtualBack hx (y := (⟨"com/example/velvet_rope/velvetrope/PenaltyPolicy", "equals", "(Ljava/lang/Object;)Z"⟩ : MethodName)) (z := (⟨"com/example/velvet_rope/velvetrope/PenaltyPolicy", "equals", "(Ljava/lang/Object;)Z"⟩ : MethodName)) hown (mvT hZ (hw _ (List.mem_of_getElem? (i := 44) rfl))) (mvT hZ (hw _ (List.mem_of_getElem? (i := 45) rfl))) (notFace_of_selects (args := #[]) (mvT hZ (hw _ (List.mem_of_getElem? (i := 47) rfl)))) (mvT hZ (hw _ (List.mem_of_getElem? (i := 47) rfl))) (mvT hZ (hw _ (List.mem_of_getElem? (i := 46) rfl))) (by decide) (backOf (W := 0) (rmEqI l Z a0 hw [] o1 r5  T5.heap n0 Zs5 A5) hZ (hw _ (List.mem_of_getElem? (i := 48) rfl)) (hw _ (List.mem_of_getElem? (i := 16) rfl)) (by decide) (by decide)) q6a q6c (g := (mkF m 246 #[iv p1, iv p2, .val (.long p3), .second, .val (.long p4), .second, iv p5, .val (.long p6), .second, iv b, iv w, .val (.long bm), .second, .val (.long mm), .second, iv b2, iv w2, .val (.long bm2), .second, .val (.long mm2), .second, rv o1, rv o2, iv sm, iv sm, iv sm, iv (1 : Int32), iv (0 : Int32), .unset] [(.ref r5), (.ref o1)])) rfl (by rw [hml]; rfl) (Steps.refl _) (argsL := [(.ref r5)]) (rest := []) (lenOf pd__28Ljava_2flang_2fObject_3b_29Z rfl) rfl (by show 2 * 0 + _ ≤ _; exact Nat.le_of_eq rfl) (hb hby at_246) (fun _ _ => ⟨rfl, rfl, (by decide : 1 + 4 + 1 + 4 + 1 + 0 ≤ _), (by decide : 4 + 44 + 4 + 44 + 1 + 0 ≤ _)⟩)
  dsimp only [Pt.U, Pt.locs, Pt.cells, Pt.slots] at X6 l6 y6 z6 st6 hQ6
  subst l6 y6 z6
  obtain ⟨rfl, N6q, e6⟩ := hQ6
  have N6 := Fr.app N5 N6q
  refine Goes.step ?_ (fun _ k => st6.trans k)
  show Goes p e below _ (sF T6 m 249 #[iv p1, iv p2, .val (.long p3), .second, .val (.long p4), .second, iv p5, .val (.long p6), .second, iv b, iv w, .val (.long bm), .second, .val (.long mm), .second, iv b2, iv w2, .val (.long bm2), .second, .val (.long mm2), .second, rv o1, rv o2, iv sm, iv sm, iv sm, iv (1 : Int32), iv (0 : Int32), .unset] [(.int (0 : Int32))])
  refine Goes.step ?_ (fun _ k => XS.istore X6.here hx rfl (hb hby at_249) rfl (l' := #[iv p1, iv p2, .val (.long p3), .second, .val (.long p4), .second, iv p5, .val (.long p6), .second, iv b, iv w, .val (.long bm), .second, .val (.long mm), .second, iv b2, iv w2, .val (.long bm2), .second, .val (.long mm2), .second, rv o1, rv o2, iv sm, iv sm, iv sm, iv (1 : Int32), iv (0 : Int32), iv (0 : Int32)]) rfl k)
  show Goes p e below _ (sF T6 m 251 #[iv p1, iv p2, .val (.long p3), .second, .val (.long p4), .second, iv p5, .val (.long p6), .second, iv b, iv w, .val (.long bm), .second, .val (.long mm), .second, iv b2, iv w2, .val (.long bm2), .second, .val (.long mm2), .second, rv o1, rv o2, iv sm, iv sm, iv sm, iv (1 : Int32), iv (0 : Int32), iv (0 : Int32)] [])
  refine Goes.step ?_ (fun _ k => XS.iload X6.here hx rfl (hb hby at_251) rfl  k)
  show Goes p e below _ (sF T6 m 253 #[iv p1, iv p2, .val (.long p3), .second, .val (.long p4), .second, iv p5, .val (.long p6), .second, iv b, iv w, .val (.long bm), .second, .val (.long mm), .second, iv b2, iv w2, .val (.long bm2), .second, .val (.long mm2), .second, rv o1, rv o2, iv sm, iv sm, iv sm, iv (1 : Int32), iv (0 : Int32), iv (0 : Int32)] [(.int sm)])
  refine Goes.step ?_ (fun _ k => XS.iload X6.here hx rfl (hb hby at_253) rfl  k)
  show Goes p e below _ (sF T6 m 255 #[iv p1, iv p2, .val (.long p3), .second, .val (.long p4), .second, iv p5, .val (.long p6), .second, iv b, iv w, .val (.long bm), .second, .val (.long mm), .second, iv b2, iv w2, .val (.long bm2), .second, .val (.long mm2), .second, rv o1, rv o2, iv sm, iv sm, iv sm, iv (1 : Int32), iv (0 : Int32), iv (0 : Int32)] [(.int sm), (.int sm)])
  refine Goes.step ?_ (fun _ k => XS.icmpNo X6.here hx rfl (hb hby at_255) rfl (teq (rfl : sm = sm)).2 k)
  show Goes p e below _ (sF T6 m 258 #[iv p1, iv p2, .val (.long p3), .second, .val (.long p4), .second, iv p5, .val (.long p6), .second, iv b, iv w, .val (.long bm), .second, .val (.long mm), .second, iv b2, iv w2, .val (.long bm2), .second, .val (.long mm2), .second, rv o1, rv o2, iv sm, iv sm, iv sm, iv (1 : Int32), iv (0 : Int32), iv (0 : Int32)] [])
  refine Goes.step ?_ (fun _ k => XS.iload X6.here hx rfl (hb hby at_258) rfl  k)
  show Goes p e below _ (sF T6 m 260 #[iv p1, iv p2, .val (.long p3), .second, .val (.long p4), .second, iv p5, .val (.long p6), .second, iv b, iv w, .val (.long bm), .second, .val (.long mm), .second, iv b2, iv w2, .val (.long bm2), .second, .val (.long mm2), .second, rv o1, rv o2, iv sm, iv sm, iv sm, iv (1 : Int32), iv (0 : Int32), iv (0 : Int32)] [(.int sm)])
  refine Goes.step ?_ (fun _ k => XS.iload X6.here hx rfl (hb hby at_260) rfl  k)
  show Goes p e below _ (sF T6 m 262 #[iv p1, iv p2, .val (.long p3), .second, .val (.long p4), .second, iv p5, .val (.long p6), .second, iv b, iv w, .val (.long bm), .second, .val (.long mm), .second, iv b2, iv w2, .val (.long bm2), .second, .val (.long mm2), .second, rv o1, rv o2, iv sm, iv sm, iv sm, iv (1 : Int32), iv (0 : Int32), iv (0 : Int32)] [(.int sm), (.int sm)])
  refine Goes.step ?_ (fun _ k => XS.icmpNo X6.here hx rfl (hb hby at_262) rfl (teq (rfl : sm = sm)).2 k)
  show Goes p e below _ (sF T6 m 265 #[iv p1, iv p2, .val (.long p3), .second, .val (.long p4), .second, iv p5, .val (.long p6), .second, iv b, iv w, .val (.long bm), .second, .val (.long mm), .second, iv b2, iv w2, .val (.long bm2), .second, .val (.long mm2), .second, rv o1, rv o2, iv sm, iv sm, iv sm, iv (1 : Int32), iv (0 : Int32), iv (0 : Int32)] [])
  refine Goes.step ?_ (fun _ k => XS.iload X6.here hx rfl (hb hby at_265) rfl  k)
  show Goes p e below _ (sF T6 m 267 #[iv p1, iv p2, .val (.long p3), .second, .val (.long p4), .second, iv p5, .val (.long p6), .second, iv b, iv w, .val (.long bm), .second, .val (.long mm), .second, iv b2, iv w2, .val (.long bm2), .second, .val (.long mm2), .second, rv o1, rv o2, iv sm, iv sm, iv sm, iv (1 : Int32), iv (0 : Int32), iv (0 : Int32)] [(.int (1 : Int32))])
  refine Goes.step ?_ (fun _ k => XS.ifNo X6.here hx rfl (hb hby at_267) rfl ((if0 _ _).trans (feq (by decide : ¬ ((1 : Int32) = (0 : Int32)))).1) k)
  show Goes p e below _ (sF T6 m 270 #[iv p1, iv p2, .val (.long p3), .second, .val (.long p4), .second, iv p5, .val (.long p6), .second, iv b, iv w, .val (.long bm), .second, .val (.long mm), .second, iv b2, iv w2, .val (.long bm2), .second, .val (.long mm2), .second, rv o1, rv o2, iv sm, iv sm, iv sm, iv (1 : Int32), iv (0 : Int32), iv (0 : Int32)] [])
  refine Goes.step ?_ (fun _ k => XS.iload X6.here hx rfl (hb hby at_270) rfl  k)
  show Goes p e below _ (sF T6 m 272 #[iv p1, iv p2, .val (.long p3), .second, .val (.long p4), .second, iv p5, .val (.long p6), .second, iv b, iv w, .val (.long bm), .second, .val (.long mm), .second, iv b2, iv w2, .val (.long bm2), .second, .val (.long mm2), .second, rv o1, rv o2, iv sm, iv sm, iv sm, iv (1 : Int32), iv (0 : Int32), iv (0 : Int32)] [(.int (0 : Int32))])
  refine Goes.step ?_ (fun _ k => XS.ifNo X6.here hx rfl (hb hby at_272) rfl ((if0 _ _).trans (teq (by decide : (0 : Int32) = (0 : Int32))).2) k)
  show Goes p e below _ (sF T6 m 275 #[iv p1, iv p2, .val (.long p3), .second, .val (.long p4), .second, iv p5, .val (.long p6), .second, iv b, iv w, .val (.long bm), .second, .val (.long mm), .second, iv b2, iv w2, .val (.long bm2), .second, .val (.long mm2), .second, rv o1, rv o2, iv sm, iv sm, iv sm, iv (1 : Int32), iv (0 : Int32), iv (0 : Int32)] [])
  refine Goes.step ?_ (fun _ k => XS.iload X6.here hx rfl (hb hby at_275) rfl  k)
  show Goes p e below _ (sF T6 m 277 #[iv p1, iv p2, .val (.long p3), .second, .val (.long p4), .second, iv p5, .val (.long p6), .second, iv b, iv w, .val (.long bm), .second, .val (.long mm), .second, iv b2, iv w2, .val (.long bm2), .second, .val (.long mm2), .second, rv o1, rv o2, iv sm, iv sm, iv sm, iv (1 : Int32), iv (0 : Int32), iv (0 : Int32)] [(.int (0 : Int32))])
  refine Goes.step ?_ (fun _ k => XS.ifNo X6.here hx rfl (hb hby at_277) rfl ((if0 _ _).trans (teq (by decide : (0 : Int32) = (0 : Int32))).2) k)
  show Goes p e below _ (sF T6 m 280 #[iv p1, iv p2, .val (.long p3), .second, .val (.long p4), .second, iv p5, .val (.long p6), .second, iv b, iv w, .val (.long bm), .second, .val (.long mm), .second, iv b2, iv w2, .val (.long bm2), .second, .val (.long mm2), .second, rv o1, rv o2, iv sm, iv sm, iv sm, iv (1 : Int32), iv (0 : Int32), iv (0 : Int32)] [])
  refine Goes.step ?_ (fun _ k => XS.iconst X6.here hx rfl (hb hby at_280) k)
  show Goes p e below _ (sF T6 m 281 #[iv p1, iv p2, .val (.long p3), .second, .val (.long p4), .second, iv p5, .val (.long p6), .second, iv b, iv w, .val (.long bm), .second, .val (.long mm), .second, iv b2, iv w2, .val (.long bm2), .second, .val (.long mm2), .second, rv o1, rv o2, iv sm, iv sm, iv sm, iv (1 : Int32), iv (0 : Int32), iv (0 : Int32)] [(.int (1 : Int32))])
  refine Goes.step ?_ (fun _ k => XS.goto X6.here hx rfl (pc0 := 281) (pc' := 285) rfl (hb hby at_281) (by decide) (by decide) k)
  show Goes p e below _ (sF T6 m 285 #[iv p1, iv p2, .val (.long p3), .second, .val (.long p4), .second, iv p5, .val (.long p6), .second, iv b, iv w, .val (.long bm), .second, .val (.long mm), .second, iv b2, iv w2, .val (.long bm2), .second, .val (.long mm2), .second, rv o1, rv o2, iv sm, iv sm, iv sm, iv (1 : Int32), iv (0 : Int32), iv (0 : Int32)] [(.int (1 : Int32))])
  refine own_outW X6 hS (by rw [e6]; exact hk) hx hlk hret rfl (Or.inl ⟨rfl, by simp, _, rfl⟩) (hb hby at_285) ?_ (by decide) (by decide)
  show Q0 n0 _ T6.heap _
  rw [e6]
  exact ⟨rfl, N6⟩
theorem pd__28IIJJ_29V : parseMethodDescriptor "(IIJJ)V" = some ⟨[.int, .int, .long, .long], none⟩ := by decide +kernel
set_option maxRecDepth 65536 in
set_option maxHeartbeats 40000000 in
theorem tail133 {p : Program} {l : Launch} {e : Env} {s : State} {m : MethodId} {args : Array Value} {below : List Frame} {meth : Method} {c : Code} {T0 : State} {locs : List Loc} {Z : State} {a0 : Array Value} {h0 : Heap} {n0 : Nat} {vm0 : Vm} {k0 : Nat} (p1 : Int32) (p2 : Int32) (p3 : Int64) (p4 : Int64) (p5 : Int32) (p6 : Int64) (w : Int32) (b : Int32) (bm : Int64) (mm : Int64) (w2 : Int32) (b2 : Int32) (bm2 : Int64) (mm2 : Int64) (cc : Addr) (cl : Cell)
    (X0 : Stand p l e room_1 (s.setVm vm0) m args below meth c T0 locs (0) (0)) (hx : p.tables.exec = Jvm.exec) (hZ : Z.Warmed39 (s.setVm vm0).vm) (hw : ∀ d ∈ tables_1, d.before a0 Z = true) (hby : c.code = code) (hlk : meth.locks = false) (hret : meth.sig.returnType = some .boolean) (hml : c.maxLocals = 29) (hown : (s.setVm vm0).vm.findClass "com/example/velvet_rope/velvetrope/PenaltyPolicyEqualsPinLaw" = some m.cls) (e0 : T0.heap = h0) (N0 : Fr n0 locs) (Z0 : n0 ≤ h0.size) (hS : s.Since vm0 k0) (hk : k0 ≤ h0.size) (O0 : Old Z n0 h0) (S_high : Sta Z Z.heap "java/lang/Integer$IntegerCache" "high" "I" (.int (127 : Int32))) (S_cache : Sta Z Z.heap "java/lang/Integer$IntegerCache" "cache" "[Ljava/lang/Integer;" (.ref cc)) (Ar_cc : Arr Z Z.heap cc cl (.object "java/lang/Integer")) (Sz_cc : cl.slots.size = 256) (Hel : ∀ i, i < 256 → ∃ x, cl.slots[i]? = some (.ref x) ∧ Exa Z Z.heap x "java/lang/Integer") (hb_b : ¬ b < 1) (hw_w : ¬ w < 1) (hle_w : ¬ b < w) (hb_b2 : ¬ b2 < 1) (hw_w2 : ¬ w2 < 1) (hle_w2 : ¬ b2 < w2) (c1_bm : ¬ (lcmpW bm (1 : Int64)) < 0) (c2_bm : ¬ (0 : Int32) < (lcmpW bm (2592000000 : Int64))) (c1_mm : ¬ (lcmpW mm (1 : Int64)) < 0) (c2_mm : ¬ (0 : Int32) < (lcmpW mm (2592000000 : Int64))) (c1_bm2 : ¬ (lcmpW bm2 (1 : Int64)) < 0) (c2_bm2 : ¬ (0 : Int32) < (lcmpW bm2 (2592000000 : Int64))) (c1_mm2 : ¬ (lcmpW mm2 (1 : Int64)) < 0) (c2_mm2 : ¬ (0 : Int32) < (lcmpW mm2 (2592000000 : Int64))) :
    Goes p e below (fun o U' => ∃ v L, o = .returned v ∧ Q0 n0 v U'.heap L ∧ ReturnedEndW s o U' L room_1.cells room_1.slots) (T0.setTop (mkF m 133 #[iv p1, iv p2, .val (.long p3), .second, .val (.long p4), .second, iv p5, .val (.long p6), .second, iv b, iv w, .val (.long bm), .second, .val (.long mm), .second, iv b2, iv w2, .val (.long bm2), .second, .val (.long mm2), .second, .unset, .unset, .unset, .unset, .unset, .unset, .unset, .unset] [])) := by
  show Goes p e below _ (sF T0 m 133 #[iv p1, iv p2, .val (.long p3), .second, .val (.long p4), .second, iv p5, .val (.long p6), .second, iv b, iv w, .val (.long bm), .second, .val (.long mm), .second, iv b2, iv w2, .val (.long bm2), .second, .val (.long mm2), .second, .unset, .unset, .unset, .unset, .unset, .unset, .unset, .unset] [])
  obtain ⟨T1, h1, X1, e1, E1, A1, D1, -, st1⟩ := newO X0 hx hZ hown (hw _ (List.mem_of_getElem? (i := 14) rfl)) (hw _ (List.mem_of_getElem? (i := 15) rfl)) (hw _ (List.mem_of_getElem? (i := 16) rfl)) e0 (g := (mkF m 133 #[iv p1, iv p2, .val (.long p3), .second, .val (.long p4), .second, iv p5, .val (.long p6), .second, iv b, iv w, .val (.long bm), .second, .val (.long mm), .second, iv b2, iv w2, .val (.long bm2), .second, .val (.long mm2), .second, .unset, .unset, .unset, .unset, .unset, .unset, .unset, .unset] [])) rfl (hb hby at_133) (by decide) (by decide)
  obtain ⟨ob1, g1⟩ : ∃ z, z = h0.size := ⟨_, rfl⟩
  rw [← g1] at A1 D1 st1
  have g_ob1 : n0 ≤ ob1 := Nat.le_trans Z0 (Nat.le_of_eq g1.symm)
  have hk := Nat.le_trans hk E1.1
  have Zs1 : n0 ≤ h1.size := Nat.le_trans Z0 E1.1
  refine Goes.step ?_ st1
  have F_warnAt_ob1 : Fld Z h1 ob1 "com/example/velvet_rope/velvetrope/PenaltyPolicy" "warnAt" "I" (.int (0 : Int32)) := D1 (Or.inr (hw _ (List.mem_of_getElem? (i := 37) rfl))) (ty := .int) (by decide)
  have F_banAt_ob1 : Fld Z h1 ob1 "com/example/velvet_rope/velvetrope/PenaltyPolicy" "banAt" "I" (.int (0 : Int32)) := D1 (Or.inr (hw _ (List.mem_of_getElem? (i := 39) rfl))) (ty := .int) (by decide)
  have F_banMillis_ob1 : Fld Z h1 ob1 "com/example/velvet_rope/velvetrope/PenaltyPolicy" "banMillis" "J" (.long (0 : Int64)) := D1 (Or.inr (hw _ (List.mem_of_getElem? (i := 41) rfl))) (ty := .long) (by decide)
  have F_memoryMillis_ob1 : Fld Z h1 ob1 "com/example/velvet_rope/velvetrope/PenaltyPolicy" "memoryMillis" "J" (.long (0 : Int64)) := D1 (Or.inr (hw _ (List.mem_of_getElem? (i := 43) rfl))) (ty := .long) (by decide)
  show Goes p e below _ (sF T1 m 136 #[iv p1, iv p2, .val (.long p3), .second, .val (.long p4), .second, iv p5, .val (.long p6), .second, iv b, iv w, .val (.long bm), .second, .val (.long mm), .second, iv b2, iv w2, .val (.long bm2), .second, .val (.long mm2), .second, .unset, .unset, .unset, .unset, .unset, .unset, .unset, .unset] [(.ref ob1)])
  refine Goes.step ?_ (fun _ k => XS.dup X1.here hx rfl (hb hby at_136) rfl rfl k)
  show Goes p e below _ (sF T1 m 137 #[iv p1, iv p2, .val (.long p3), .second, .val (.long p4), .second, iv p5, .val (.long p6), .second, iv b, iv w, .val (.long bm), .second, .val (.long mm), .second, iv b2, iv w2, .val (.long bm2), .second, .val (.long mm2), .second, .unset, .unset, .unset, .unset, .unset, .unset, .unset, .unset] [(.ref ob1), (.ref ob1)])
  refine Goes.step ?_ (fun _ k => XS.iload X1.here hx rfl (hb hby at_137) rfl  k)
  show Goes p e below _ (sF T1 m 139 #[iv p1, iv p2, .val (.long p3), .second, .val (.long p4), .second, iv p5, .val (.long p6), .second, iv b, iv w, .val (.long bm), .second, .val (.long mm), .second, iv b2, iv w2, .val (.long bm2), .second, .val (.long mm2), .second, .unset, .unset, .unset, .unset, .unset, .unset, .unset, .unset] [(.int w), (.ref ob1), (.ref ob1)])
  refine Goes.step ?_ (fun _ k => XS.iload X1.here hx rfl (hb hby at_139) rfl  k)
  show Goes p e below _ (sF T1 m 141 #[iv p1, iv p2, .val (.long p3), .second, .val (.long p4), .second, iv p5, .val (.long p6), .second, iv b, iv w, .val (.long bm), .second, .val (.long mm), .second, iv b2, iv w2, .val (.long bm2), .second, .val (.long mm2), .second, .unset, .unset, .unset, .unset, .unset, .unset, .unset, .unset] [(.int b), (.int w), (.ref ob1), (.ref ob1)])
  refine Goes.step ?_ (fun _ k => XS.lload X1.here hx rfl (hb hby at_141) rfl  k)
  show Goes p e below _ (sF T1 m 143 #[iv p1, iv p2, .val (.long p3), .second, .val (.long p4), .second, iv p5, .val (.long p6), .second, iv b, iv w, .val (.long bm), .second, .val (.long mm), .second, iv b2, iv w2, .val (.long bm2), .second, .val (.long mm2), .second, .unset, .unset, .unset, .unset, .unset, .unset, .unset, .unset] [(.long bm), (.int b), (.int w), (.ref ob1), (.ref ob1)])
  refine Goes.step ?_ (fun _ k => XS.lload X1.here hx rfl (hb hby at_143) rfl  k)
  show Goes p e below _ (sF T1 m 145 #[iv p1, iv p2, .val (.long p3), .second, .val (.long p4), .second, iv p5, .val (.long p6), .second, iv b, iv w, .val (.long bm), .second, .val (.long mm), .second, iv b2, iv w2, .val (.long bm2), .second, .val (.long mm2), .second, .unset, .unset, .unset, .unset, .unset, .unset, .unset, .unset] [(.long mm), (.long bm), (.int b), (.int w), (.ref ob1), (.ref ob1)])
  obtain ⟨_, _, ⟨T2, L2, k2, n2⟩, -, X2, hS2, gh2, ⟨Lc2, hQ2, l2, y2, z2⟩, st2⟩ := X1.specialBackS hx (y := (⟨"com/example/velvet_rope/velvetrope/PenaltyPolicy", "<init>", "(IIJJ)V"⟩ : MethodName)) rfl hown (mvT hZ (hw _ (List.mem_of_getElem? (i := 17) rfl))) (mvT hZ (hw _ (List.mem_of_getElem? (i := 18) rfl))) (mvT hZ (hw _ (List.mem_of_getElem? (i := 19) rfl))) (by decide) (backOfS (W := 1) (rmNew l Z a0 hw [] ob1 w b bm mm  h1 n0 Zs1 F_warnAt_ob1 F_banAt_ob1 F_banMillis_ob1 F_memoryMillis_ob1 A1 g_ob1 hb_b hw_w hle_w c1_bm c2_bm c1_mm c2_mm) hZ (hw _ (List.mem_of_getElem? (i := 19) rfl)) (hw _ (List.mem_of_getElem? (i := 16) rfl)) (by decide) (by decide)) (g := (mkF m 145 #[iv p1, iv p2, .val (.long p3), .second, .val (.long p4), .second, iv p5, .val (.long p6), .second, iv b, iv w, .val (.long bm), .second, .val (.long mm), .second, iv b2, iv w2, .val (.long bm2), .second, .val (.long mm2), .second, .unset, .unset, .unset, .unset, .unset, .unset, .unset, .unset] [(.long mm), (.long bm), (.int b), (.int w), (.ref ob1), (.ref ob1)])) rfl (by rw [hml]; rfl) (Steps.refl _) (a := ob1) (argsL := [(.int w), (.int b), (.long bm), (.long mm)]) (rest := [(.ref ob1)]) (lenOf pd__28IIJJ_29V rfl) rfl (by show 2 * 0 + _ ≤ _; exact Nat.le_of_eq rfl) (hb hby at_145) (fun _ _ => ⟨rfl, e1, (by decide : 0 + 1 + 4 ≤ _), (by decide : 0 + 4 + 44 ≤ _)⟩)
  dsimp only [Pt.U, Pt.locs, Pt.cells, Pt.slots] at X2 l2 y2 z2 st2 hQ2 hS2 gh2
  subst l2 y2 z2
  obtain ⟨X2, hS, hZ, hown⟩ := rebS hS (show _ ≤ T1.heap.size from (by rw [e1]; exact hk)) X2 hS2 gh2 hZ hown
  have hk : T2.heap.size ≤ T2.heap.size := Nat.le_refl _
  obtain ⟨rfl, N2q, K2, G12, G22, G32, G42⟩ := hQ2
  have N2 := Fr.app N0 N2q
  refine Goes.step ?_ (fun _ k => st2.trans k)
  have Zs2 : n0 ≤ T2.heap.size := Nat.le_trans Zs1 K2.1
  show Goes p e below _ (sF T2 m 148 #[iv p1, iv p2, .val (.long p3), .second, .val (.long p4), .second, iv p5, .val (.long p6), .second, iv b, iv w, .val (.long bm), .second, .val (.long mm), .second, iv b2, iv w2, .val (.long bm2), .second, .val (.long mm2), .second, .unset, .unset, .unset, .unset, .unset, .unset, .unset, .unset] [(.ref ob1)])
  refine Goes.step ?_ (fun _ k => XS.astore X2.here hx rfl (hb hby at_148) rfl rfl (l' := #[iv p1, iv p2, .val (.long p3), .second, .val (.long p4), .second, iv p5, .val (.long p6), .second, iv b, iv w, .val (.long bm), .second, .val (.long mm), .second, iv b2, iv w2, .val (.long bm2), .second, .val (.long mm2), .second, rv ob1, .unset, .unset, .unset, .unset, .unset, .unset, .unset]) rfl k)
  show Goes p e below _ (sF T2 m 150 #[iv p1, iv p2, .val (.long p3), .second, .val (.long p4), .second, iv p5, .val (.long p6), .second, iv b, iv w, .val (.long bm), .second, .val (.long mm), .second, iv b2, iv w2, .val (.long bm2), .second, .val (.long mm2), .second, rv ob1, .unset, .unset, .unset, .unset, .unset, .unset, .unset] [])
  obtain ⟨T3, h3, X3, e3, E3, A3, D3, -, st3⟩ := newO X2 hx hZ hown (hw _ (List.mem_of_getElem? (i := 14) rfl)) (hw _ (List.mem_of_getElem? (i := 15) rfl)) (hw _ (List.mem_of_getElem? (i := 16) rfl)) rfl (g := (mkF m 150 #[iv p1, iv p2, .val (.long p3), .second, .val (.long p4), .second, iv p5, .val (.long p6), .second, iv b, iv w, .val (.long bm), .second, .val (.long mm), .second, iv b2, iv w2, .val (.long bm2), .second, .val (.long mm2), .second, rv ob1, .unset, .unset, .unset, .unset, .unset, .unset, .unset] [])) rfl (hb hby at_150) (by decide) (by decide)
  obtain ⟨ob3, g3⟩ : ∃ z, z = T2.heap.size := ⟨_, rfl⟩
  rw [← g3] at A3 D3 st3
  have g_ob3 : n0 ≤ ob3 := Nat.le_trans Zs2 (Nat.le_of_eq g3.symm)
  have E_ob1_4 := (A1.keep K2)
  have ne_ob1_ob3 : ob1 ≠ ob3 := Nat.ne_of_lt (Nat.lt_of_lt_of_le E_ob1_4.lt (Nat.le_of_eq g3.symm))
  have hk := Nat.le_trans hk E3.1
  have Zs3 : n0 ≤ h3.size := Nat.le_trans Zs2 E3.1
  refine Goes.step ?_ st3
  have F_warnAt_ob3 : Fld Z h3 ob3 "com/example/velvet_rope/velvetrope/PenaltyPolicy" "warnAt" "I" (.int (0 : Int32)) := D3 (Or.inr (hw _ (List.mem_of_getElem? (i := 37) rfl))) (ty := .int) (by decide)
  have F_banAt_ob3 : Fld Z h3 ob3 "com/example/velvet_rope/velvetrope/PenaltyPolicy" "banAt" "I" (.int (0 : Int32)) := D3 (Or.inr (hw _ (List.mem_of_getElem? (i := 39) rfl))) (ty := .int) (by decide)
  have F_banMillis_ob3 : Fld Z h3 ob3 "com/example/velvet_rope/velvetrope/PenaltyPolicy" "banMillis" "J" (.long (0 : Int64)) := D3 (Or.inr (hw _ (List.mem_of_getElem? (i := 41) rfl))) (ty := .long) (by decide)
  have F_memoryMillis_ob3 : Fld Z h3 ob3 "com/example/velvet_rope/velvetrope/PenaltyPolicy" "memoryMillis" "J" (.long (0 : Int64)) := D3 (Or.inr (hw _ (List.mem_of_getElem? (i := 43) rfl))) (ty := .long) (by decide)
  show Goes p e below _ (sF T3 m 153 #[iv p1, iv p2, .val (.long p3), .second, .val (.long p4), .second, iv p5, .val (.long p6), .second, iv b, iv w, .val (.long bm), .second, .val (.long mm), .second, iv b2, iv w2, .val (.long bm2), .second, .val (.long mm2), .second, rv ob1, .unset, .unset, .unset, .unset, .unset, .unset, .unset] [(.ref ob3)])
  refine Goes.step ?_ (fun _ k => XS.dup X3.here hx rfl (hb hby at_153) rfl rfl k)
  show Goes p e below _ (sF T3 m 154 #[iv p1, iv p2, .val (.long p3), .second, .val (.long p4), .second, iv p5, .val (.long p6), .second, iv b, iv w, .val (.long bm), .second, .val (.long mm), .second, iv b2, iv w2, .val (.long bm2), .second, .val (.long mm2), .second, rv ob1, .unset, .unset, .unset, .unset, .unset, .unset, .unset] [(.ref ob3), (.ref ob3)])
  refine Goes.step ?_ (fun _ k => XS.iload X3.here hx rfl (hb hby at_154) rfl  k)
  show Goes p e below _ (sF T3 m 156 #[iv p1, iv p2, .val (.long p3), .second, .val (.long p4), .second, iv p5, .val (.long p6), .second, iv b, iv w, .val (.long bm), .second, .val (.long mm), .second, iv b2, iv w2, .val (.long bm2), .second, .val (.long mm2), .second, rv ob1, .unset, .unset, .unset, .unset, .unset, .unset, .unset] [(.int w2), (.ref ob3), (.ref ob3)])
  refine Goes.step ?_ (fun _ k => XS.iload X3.here hx rfl (hb hby at_156) rfl  k)
  show Goes p e below _ (sF T3 m 158 #[iv p1, iv p2, .val (.long p3), .second, .val (.long p4), .second, iv p5, .val (.long p6), .second, iv b, iv w, .val (.long bm), .second, .val (.long mm), .second, iv b2, iv w2, .val (.long bm2), .second, .val (.long mm2), .second, rv ob1, .unset, .unset, .unset, .unset, .unset, .unset, .unset] [(.int b2), (.int w2), (.ref ob3), (.ref ob3)])
  refine Goes.step ?_ (fun _ k => XS.lload X3.here hx rfl (hb hby at_158) rfl  k)
  show Goes p e below _ (sF T3 m 160 #[iv p1, iv p2, .val (.long p3), .second, .val (.long p4), .second, iv p5, .val (.long p6), .second, iv b, iv w, .val (.long bm), .second, .val (.long mm), .second, iv b2, iv w2, .val (.long bm2), .second, .val (.long mm2), .second, rv ob1, .unset, .unset, .unset, .unset, .unset, .unset, .unset] [(.long bm2), (.int b2), (.int w2), (.ref ob3), (.ref ob3)])
  refine Goes.step ?_ (fun _ k => XS.lload X3.here hx rfl (hb hby at_160) rfl  k)
  show Goes p e below _ (sF T3 m 162 #[iv p1, iv p2, .val (.long p3), .second, .val (.long p4), .second, iv p5, .val (.long p6), .second, iv b, iv w, .val (.long bm), .second, .val (.long mm), .second, iv b2, iv w2, .val (.long bm2), .second, .val (.long mm2), .second, rv ob1, .unset, .unset, .unset, .unset, .unset, .unset, .unset] [(.long mm2), (.long bm2), (.int b2), (.int w2), (.ref ob3), (.ref ob3)])
  obtain ⟨_, _, ⟨T5, L5, k5, n5⟩, -, X5, hS5, gh5, ⟨Lc5, hQ5, l5, y5, z5⟩, st5⟩ := X3.specialBackS hx (y := (⟨"com/example/velvet_rope/velvetrope/PenaltyPolicy", "<init>", "(IIJJ)V"⟩ : MethodName)) rfl hown (mvT hZ (hw _ (List.mem_of_getElem? (i := 17) rfl))) (mvT hZ (hw _ (List.mem_of_getElem? (i := 18) rfl))) (mvT hZ (hw _ (List.mem_of_getElem? (i := 19) rfl))) (by decide) (backOfS (W := 1) (rmNew l Z a0 hw [] ob3 w2 b2 bm2 mm2  h3 n0 Zs3 F_warnAt_ob3 F_banAt_ob3 F_banMillis_ob3 F_memoryMillis_ob3 A3 g_ob3 hb_b2 hw_w2 hle_w2 c1_bm2 c2_bm2 c1_mm2 c2_mm2) hZ (hw _ (List.mem_of_getElem? (i := 19) rfl)) (hw _ (List.mem_of_getElem? (i := 16) rfl)) (by decide) (by decide)) (g := (mkF m 162 #[iv p1, iv p2, .val (.long p3), .second, .val (.long p4), .second, iv p5, .val (.long p6), .second, iv b, iv w, .val (.long bm), .second, .val (.long mm), .second, iv b2, iv w2, .val (.long bm2), .second, .val (.long mm2), .second, rv ob1, .unset, .unset, .unset, .unset, .unset, .unset, .unset] [(.long mm2), (.long bm2), (.int b2), (.int w2), (.ref ob3), (.ref ob3)])) rfl (by rw [hml]; rfl) (Steps.refl _) (a := ob3) (argsL := [(.int w2), (.int b2), (.long bm2), (.long mm2)]) (rest := [(.ref ob3)]) (lenOf pd__28IIJJ_29V rfl) rfl (by show 2 * 0 + _ ≤ _; exact Nat.le_of_eq rfl) (hb hby at_162) (fun _ _ => ⟨rfl, e3, (by decide : 0 + 1 + 4 + 1 + 4 ≤ _), (by decide : 0 + 4 + 44 + 4 + 44 ≤ _)⟩)
  dsimp only [Pt.U, Pt.locs, Pt.cells, Pt.slots] at X5 l5 y5 z5 st5 hQ5 hS5 gh5
  subst l5 y5 z5
  obtain ⟨X5, hS, hZ, hown⟩ := rebS hS (show _ ≤ T3.heap.size from (by rw [e3]; exact hk)) X5 hS5 gh5 hZ hown
  have hk : T5.heap.size ≤ T5.heap.size := Nat.le_refl _
  obtain ⟨rfl, N5q, K5, G15, G25, G35, G45⟩ := hQ5
  have N5 := Fr.app N2 N5q
  refine Goes.step ?_ (fun _ k => st5.trans k)
  have Zs5 : n0 ≤ T5.heap.size := Nat.le_trans Zs3 K5.1
  show Goes p e below _ (sF T5 m 165 #[iv p1, iv p2, .val (.long p3), .second, .val (.long p4), .second, iv p5, .val (.long p6), .second, iv b, iv w, .val (.long bm), .second, .val (.long mm), .second, iv b2, iv w2, .val (.long bm2), .second, .val (.long mm2), .second, rv ob1, .unset, .unset, .unset, .unset, .unset, .unset, .unset] [(.ref ob3)])
  refine Goes.step ?_ (fun _ k => XS.astore X5.here hx rfl (hb hby at_165) rfl rfl (l' := #[iv p1, iv p2, .val (.long p3), .second, .val (.long p4), .second, iv p5, .val (.long p6), .second, iv b, iv w, .val (.long bm), .second, .val (.long mm), .second, iv b2, iv w2, .val (.long bm2), .second, .val (.long mm2), .second, rv ob1, rv ob3, .unset, .unset, .unset, .unset, .unset, .unset]) rfl k)
  show Goes p e below _ (sF T5 m 167 #[iv p1, iv p2, .val (.long p3), .second, .val (.long p4), .second, iv p5, .val (.long p6), .second, iv b, iv w, .val (.long bm), .second, .val (.long mm), .second, iv b2, iv w2, .val (.long bm2), .second, .val (.long mm2), .second, rv ob1, rv ob3, .unset, .unset, .unset, .unset, .unset, .unset] [])
  refine Goes.step ?_ (fun _ k => XS.iload X5.here hx rfl (hb hby at_167) rfl  k)
  show Goes p e below _ (sF T5 m 169 #[iv p1, iv p2, .val (.long p3), .second, .val (.long p4), .second, iv p5, .val (.long p6), .second, iv b, iv w, .val (.long bm), .second, .val (.long mm), .second, iv b2, iv w2, .val (.long bm2), .second, .val (.long mm2), .second, rv ob1, rv ob3, .unset, .unset, .unset, .unset, .unset, .unset] [(.int w)])
  refine Goes.step ?_ (fun _ k => XS.iload X5.here hx rfl (hb hby at_169) rfl  k)
  show Goes p e below _ (sF T5 m 171 #[iv p1, iv p2, .val (.long p3), .second, .val (.long p4), .second, iv p5, .val (.long p6), .second, iv b, iv w, .val (.long bm), .second, .val (.long mm), .second, iv b2, iv w2, .val (.long bm2), .second, .val (.long mm2), .second, rv ob1, rv ob3, .unset, .unset, .unset, .unset, .unset, .unset] [(.int w2), (.int w)])
  by_cases hc171_6 : w = w2
  · refine Goes.step ?_ (fun _ k => XS.icmpNo X5.here hx rfl (hb hby at_171) rfl (teq hc171_6).2 k)
    show Goes p e below _ (sF T5 m 174 #[iv p1, iv p2, .val (.long p3), .second, .val (.long p4), .second, iv p5, .val (.long p6), .second, iv b, iv w, .val (.long bm), .second, .val (.long mm), .second, iv b2, iv w2, .val (.long bm2), .second, .val (.long mm2), .second, rv ob1, rv ob3, .unset, .unset, .unset, .unset, .unset, .unset] [])
    refine Goes.step ?_ (fun _ k => XS.iload X5.here hx rfl (hb hby at_174) rfl  k)
    show Goes p e below _ (sF T5 m 176 #[iv p1, iv p2, .val (.long p3), .second, .val (.long p4), .second, iv p5, .val (.long p6), .second, iv b, iv w, .val (.long bm), .second, .val (.long mm), .second, iv b2, iv w2, .val (.long bm2), .second, .val (.long mm2), .second, rv ob1, rv ob3, .unset, .unset, .unset, .unset, .unset, .unset] [(.int b)])
    refine Goes.step ?_ (fun _ k => XS.iload X5.here hx rfl (hb hby at_176) rfl  k)
    show Goes p e below _ (sF T5 m 178 #[iv p1, iv p2, .val (.long p3), .second, .val (.long p4), .second, iv p5, .val (.long p6), .second, iv b, iv w, .val (.long bm), .second, .val (.long mm), .second, iv b2, iv w2, .val (.long bm2), .second, .val (.long mm2), .second, rv ob1, rv ob3, .unset, .unset, .unset, .unset, .unset, .unset] [(.int b2), (.int b)])
    by_cases hc178_7 : b = b2
    · refine Goes.step ?_ (fun _ k => XS.icmpNo X5.here hx rfl (hb hby at_178) rfl (teq hc178_7).2 k)
      show Goes p e below _ (sF T5 m 181 #[iv p1, iv p2, .val (.long p3), .second, .val (.long p4), .second, iv p5, .val (.long p6), .second, iv b, iv w, .val (.long bm), .second, .val (.long mm), .second, iv b2, iv w2, .val (.long bm2), .second, .val (.long mm2), .second, rv ob1, rv ob3, .unset, .unset, .unset, .unset, .unset, .unset] [])
      refine Goes.step ?_ (fun _ k => XS.lload X5.here hx rfl (hb hby at_181) rfl  k)
      show Goes p e below _ (sF T5 m 183 #[iv p1, iv p2, .val (.long p3), .second, .val (.long p4), .second, iv p5, .val (.long p6), .second, iv b, iv w, .val (.long bm), .second, .val (.long mm), .second, iv b2, iv w2, .val (.long bm2), .second, .val (.long mm2), .second, rv ob1, rv ob3, .unset, .unset, .unset, .unset, .unset, .unset] [(.long bm)])
      refine Goes.step ?_ (fun _ k => XS.lload X5.here hx rfl (hb hby at_183) rfl  k)
      show Goes p e below _ (sF T5 m 185 #[iv p1, iv p2, .val (.long p3), .second, .val (.long p4), .second, iv p5, .val (.long p6), .second, iv b, iv w, .val (.long bm), .second, .val (.long mm), .second, iv b2, iv w2, .val (.long bm2), .second, .val (.long mm2), .second, rv ob1, rv ob3, .unset, .unset, .unset, .unset, .unset, .unset] [(.long bm2), (.long bm)])
      refine Goes.step ?_ (fun _ k => XS.lcmp X5.here hx rfl (hb hby at_185) rfl k)
      show Goes p e below _ (sF T5 m 186 #[iv p1, iv p2, .val (.long p3), .second, .val (.long p4), .second, iv p5, .val (.long p6), .second, iv b, iv w, .val (.long bm), .second, .val (.long mm), .second, iv b2, iv w2, .val (.long bm2), .second, .val (.long mm2), .second, rv ob1, rv ob3, .unset, .unset, .unset, .unset, .unset, .unset] [(.int (lcmpW bm bm2))])
      by_cases hc186_8 : (lcmpW bm bm2) = (0 : Int32)
      · refine Goes.step ?_ (fun _ k => XS.ifNo X5.here hx rfl (hb hby at_186) rfl ((if0 _ _).trans (teq hc186_8).2) k)
        show Goes p e below _ (sF T5 m 189 #[iv p1, iv p2, .val (.long p3), .second, .val (.long p4), .second, iv p5, .val (.long p6), .second, iv b, iv w, .val (.long bm), .second, .val (.long mm), .second, iv b2, iv w2, .val (.long bm2), .second, .val (.long mm2), .second, rv ob1, rv ob3, .unset, .unset, .unset, .unset, .unset, .unset] [])
        refine Goes.step ?_ (fun _ k => XS.lload X5.here hx rfl (hb hby at_189) rfl  k)
        show Goes p e below _ (sF T5 m 191 #[iv p1, iv p2, .val (.long p3), .second, .val (.long p4), .second, iv p5, .val (.long p6), .second, iv b, iv w, .val (.long bm), .second, .val (.long mm), .second, iv b2, iv w2, .val (.long bm2), .second, .val (.long mm2), .second, rv ob1, rv ob3, .unset, .unset, .unset, .unset, .unset, .unset] [(.long mm)])
        refine Goes.step ?_ (fun _ k => XS.lload X5.here hx rfl (hb hby at_191) rfl  k)
        show Goes p e below _ (sF T5 m 193 #[iv p1, iv p2, .val (.long p3), .second, .val (.long p4), .second, iv p5, .val (.long p6), .second, iv b, iv w, .val (.long bm), .second, .val (.long mm), .second, iv b2, iv w2, .val (.long bm2), .second, .val (.long mm2), .second, rv ob1, rv ob3, .unset, .unset, .unset, .unset, .unset, .unset] [(.long mm2), (.long mm)])
        refine Goes.step ?_ (fun _ k => XS.lcmp X5.here hx rfl (hb hby at_193) rfl k)
        show Goes p e below _ (sF T5 m 194 #[iv p1, iv p2, .val (.long p3), .second, .val (.long p4), .second, iv p5, .val (.long p6), .second, iv b, iv w, .val (.long bm), .second, .val (.long mm), .second, iv b2, iv w2, .val (.long bm2), .second, .val (.long mm2), .second, rv ob1, rv ob3, .unset, .unset, .unset, .unset, .unset, .unset] [(.int (lcmpW mm mm2))])
        by_cases hc194_9 : (lcmpW mm mm2) = (0 : Int32)
        · refine Goes.step ?_ (fun _ k => XS.ifNo X5.here hx rfl (hb hby at_194) rfl ((if0 _ _).trans (teq hc194_9).2) k)
          show Goes p e below _ (sF T5 m 197 #[iv p1, iv p2, .val (.long p3), .second, .val (.long p4), .second, iv p5, .val (.long p6), .second, iv b, iv w, .val (.long bm), .second, .val (.long mm), .second, iv b2, iv w2, .val (.long bm2), .second, .val (.long mm2), .second, rv ob1, rv ob3, .unset, .unset, .unset, .unset, .unset, .unset] [])
          refine Goes.step ?_ (fun _ k => XS.iconst X5.here hx rfl (hb hby at_197) k)
          show Goes p e below _ (sF T5 m 198 #[iv p1, iv p2, .val (.long p3), .second, .val (.long p4), .second, iv p5, .val (.long p6), .second, iv b, iv w, .val (.long bm), .second, .val (.long mm), .second, iv b2, iv w2, .val (.long bm2), .second, .val (.long mm2), .second, rv ob1, rv ob3, .unset, .unset, .unset, .unset, .unset, .unset] [(.int (1 : Int32))])
          refine Goes.step ?_ (fun _ k => XS.goto X5.here hx rfl (pc0 := 198) (pc' := 202) rfl (hb hby at_198) (by decide) (by decide) k)
          show Goes p e below _ (sF T5 m 202 #[iv p1, iv p2, .val (.long p3), .second, .val (.long p4), .second, iv p5, .val (.long p6), .second, iv b, iv w, .val (.long bm), .second, .val (.long mm), .second, iv b2, iv w2, .val (.long bm2), .second, .val (.long mm2), .second, rv ob1, rv ob3, .unset, .unset, .unset, .unset, .unset, .unset] [(.int (1 : Int32))])
          refine Goes.step ?_ (fun _ k => XS.istore X5.here hx rfl (hb hby at_202) rfl (l' := #[iv p1, iv p2, .val (.long p3), .second, .val (.long p4), .second, iv p5, .val (.long p6), .second, iv b, iv w, .val (.long bm), .second, .val (.long mm), .second, iv b2, iv w2, .val (.long bm2), .second, .val (.long mm2), .second, rv ob1, rv ob3, iv (1 : Int32), .unset, .unset, .unset, .unset, .unset]) rfl k)
          show Goes p e below _ (sF T5 m 204 #[iv p1, iv p2, .val (.long p3), .second, .val (.long p4), .second, iv p5, .val (.long p6), .second, iv b, iv w, .val (.long bm), .second, .val (.long mm), .second, iv b2, iv w2, .val (.long bm2), .second, .val (.long mm2), .second, rv ob1, rv ob3, iv (1 : Int32), .unset, .unset, .unset, .unset, .unset] [])
          have O_10 := ((((O0.ext E1).keep K2 (allS g_ob1 all0)).ext E3).keep K5 (allS g_ob3 all0))
          have E_ob1_11 := ((E_ob1_4.ext E3).keep K5)
          have E_ob3_12 := (A3.keep K5)
          have F_ob1_warnAt_13 := ((G12.ext E3).keep K5 (ninS ne_ob1_ob3 nin0))
          have F_ob1_banAt_14 := ((G22.ext E3).keep K5 (ninS ne_ob1_ob3 nin0))
          have F_ob1_banMillis_15 := ((G32.ext E3).keep K5 (ninS ne_ob1_ob3 nin0))
          have F_ob1_memoryMillis_16 := ((G42.ext E3).keep K5 (ninS ne_ob1_ob3 nin0))
          exact tail204 p1 p2 p3 p4 p5 p6 w b bm mm w2 b2 bm2 mm2 ob1 ob3 (1 : Int32) cc cl X5 hx hZ hw hby hlk hret hml hown rfl N5 Zs5 hS hk O_10 S_high S_cache Ar_cc Sz_cc Hel E_ob1_11 E_ob3_12 F_ob1_warnAt_13 F_ob1_banAt_14 F_ob1_banMillis_15 F_ob1_memoryMillis_16 G15 G25 G35 G45 (by simp only [eqV, hc171_6, hc178_7, hc186_8, hc194_9, if_true, if_false])
        · refine Goes.step ?_ (fun _ k => XS.ifYes X5.here hx rfl (pc0 := 194) (pc' := 201) rfl (hb hby at_194) rfl ((if0 _ _).trans (feq hc194_9).2) (by decide) (by decide) k)
          show Goes p e below _ (sF T5 m 201 #[iv p1, iv p2, .val (.long p3), .second, .val (.long p4), .second, iv p5, .val (.long p6), .second, iv b, iv w, .val (.long bm), .second, .val (.long mm), .second, iv b2, iv w2, .val (.long bm2), .second, .val (.long mm2), .second, rv ob1, rv ob3, .unset, .unset, .unset, .unset, .unset, .unset] [])
          refine Goes.step ?_ (fun _ k => XS.iconst X5.here hx rfl (hb hby at_201) k)
          show Goes p e below _ (sF T5 m 202 #[iv p1, iv p2, .val (.long p3), .second, .val (.long p4), .second, iv p5, .val (.long p6), .second, iv b, iv w, .val (.long bm), .second, .val (.long mm), .second, iv b2, iv w2, .val (.long bm2), .second, .val (.long mm2), .second, rv ob1, rv ob3, .unset, .unset, .unset, .unset, .unset, .unset] [(.int (0 : Int32))])
          refine Goes.step ?_ (fun _ k => XS.istore X5.here hx rfl (hb hby at_202) rfl (l' := #[iv p1, iv p2, .val (.long p3), .second, .val (.long p4), .second, iv p5, .val (.long p6), .second, iv b, iv w, .val (.long bm), .second, .val (.long mm), .second, iv b2, iv w2, .val (.long bm2), .second, .val (.long mm2), .second, rv ob1, rv ob3, iv (0 : Int32), .unset, .unset, .unset, .unset, .unset]) rfl k)
          show Goes p e below _ (sF T5 m 204 #[iv p1, iv p2, .val (.long p3), .second, .val (.long p4), .second, iv p5, .val (.long p6), .second, iv b, iv w, .val (.long bm), .second, .val (.long mm), .second, iv b2, iv w2, .val (.long bm2), .second, .val (.long mm2), .second, rv ob1, rv ob3, iv (0 : Int32), .unset, .unset, .unset, .unset, .unset] [])
          have O_17 := ((((O0.ext E1).keep K2 (allS g_ob1 all0)).ext E3).keep K5 (allS g_ob3 all0))
          have E_ob1_18 := ((E_ob1_4.ext E3).keep K5)
          have E_ob3_19 := (A3.keep K5)
          have F_ob1_warnAt_20 := ((G12.ext E3).keep K5 (ninS ne_ob1_ob3 nin0))
          have F_ob1_banAt_21 := ((G22.ext E3).keep K5 (ninS ne_ob1_ob3 nin0))
          have F_ob1_banMillis_22 := ((G32.ext E3).keep K5 (ninS ne_ob1_ob3 nin0))
          have F_ob1_memoryMillis_23 := ((G42.ext E3).keep K5 (ninS ne_ob1_ob3 nin0))
          exact tail204 p1 p2 p3 p4 p5 p6 w b bm mm w2 b2 bm2 mm2 ob1 ob3 (0 : Int32) cc cl X5 hx hZ hw hby hlk hret hml hown rfl N5 Zs5 hS hk O_17 S_high S_cache Ar_cc Sz_cc Hel E_ob1_18 E_ob3_19 F_ob1_warnAt_20 F_ob1_banAt_21 F_ob1_banMillis_22 F_ob1_memoryMillis_23 G15 G25 G35 G45 (by simp only [eqV, hc171_6, hc178_7, hc186_8, hc194_9, if_true, if_false])
      · refine Goes.step ?_ (fun _ k => XS.ifYes X5.here hx rfl (pc0 := 186) (pc' := 201) rfl (hb hby at_186) rfl ((if0 _ _).trans (feq hc186_8).2) (by decide) (by decide) k)
        show Goes p e below _ (sF T5 m 201 #[iv p1, iv p2, .val (.long p3), .second, .val (.long p4), .second, iv p5, .val (.long p6), .second, iv b, iv w, .val (.long bm), .second, .val (.long mm), .second, iv b2, iv w2, .val (.long bm2), .second, .val (.long mm2), .second, rv ob1, rv ob3, .unset, .unset, .unset, .unset, .unset, .unset] [])
        refine Goes.step ?_ (fun _ k => XS.iconst X5.here hx rfl (hb hby at_201) k)
        show Goes p e below _ (sF T5 m 202 #[iv p1, iv p2, .val (.long p3), .second, .val (.long p4), .second, iv p5, .val (.long p6), .second, iv b, iv w, .val (.long bm), .second, .val (.long mm), .second, iv b2, iv w2, .val (.long bm2), .second, .val (.long mm2), .second, rv ob1, rv ob3, .unset, .unset, .unset, .unset, .unset, .unset] [(.int (0 : Int32))])
        refine Goes.step ?_ (fun _ k => XS.istore X5.here hx rfl (hb hby at_202) rfl (l' := #[iv p1, iv p2, .val (.long p3), .second, .val (.long p4), .second, iv p5, .val (.long p6), .second, iv b, iv w, .val (.long bm), .second, .val (.long mm), .second, iv b2, iv w2, .val (.long bm2), .second, .val (.long mm2), .second, rv ob1, rv ob3, iv (0 : Int32), .unset, .unset, .unset, .unset, .unset]) rfl k)
        show Goes p e below _ (sF T5 m 204 #[iv p1, iv p2, .val (.long p3), .second, .val (.long p4), .second, iv p5, .val (.long p6), .second, iv b, iv w, .val (.long bm), .second, .val (.long mm), .second, iv b2, iv w2, .val (.long bm2), .second, .val (.long mm2), .second, rv ob1, rv ob3, iv (0 : Int32), .unset, .unset, .unset, .unset, .unset] [])
        have O_24 := ((((O0.ext E1).keep K2 (allS g_ob1 all0)).ext E3).keep K5 (allS g_ob3 all0))
        have E_ob1_25 := ((E_ob1_4.ext E3).keep K5)
        have E_ob3_26 := (A3.keep K5)
        have F_ob1_warnAt_27 := ((G12.ext E3).keep K5 (ninS ne_ob1_ob3 nin0))
        have F_ob1_banAt_28 := ((G22.ext E3).keep K5 (ninS ne_ob1_ob3 nin0))
        have F_ob1_banMillis_29 := ((G32.ext E3).keep K5 (ninS ne_ob1_ob3 nin0))
        have F_ob1_memoryMillis_30 := ((G42.ext E3).keep K5 (ninS ne_ob1_ob3 nin0))
        exact tail204 p1 p2 p3 p4 p5 p6 w b bm mm w2 b2 bm2 mm2 ob1 ob3 (0 : Int32) cc cl X5 hx hZ hw hby hlk hret hml hown rfl N5 Zs5 hS hk O_24 S_high S_cache Ar_cc Sz_cc Hel E_ob1_25 E_ob3_26 F_ob1_warnAt_27 F_ob1_banAt_28 F_ob1_banMillis_29 F_ob1_memoryMillis_30 G15 G25 G35 G45 (by simp only [eqV, hc171_6, hc178_7, hc186_8, if_true, if_false])
    · refine Goes.step ?_ (fun _ k => XS.icmpYes X5.here hx rfl (pc0 := 178) (pc' := 201) rfl (hb hby at_178) rfl (feq hc178_7).2 (by decide) (by decide) k)
      show Goes p e below _ (sF T5 m 201 #[iv p1, iv p2, .val (.long p3), .second, .val (.long p4), .second, iv p5, .val (.long p6), .second, iv b, iv w, .val (.long bm), .second, .val (.long mm), .second, iv b2, iv w2, .val (.long bm2), .second, .val (.long mm2), .second, rv ob1, rv ob3, .unset, .unset, .unset, .unset, .unset, .unset] [])
      refine Goes.step ?_ (fun _ k => XS.iconst X5.here hx rfl (hb hby at_201) k)
      show Goes p e below _ (sF T5 m 202 #[iv p1, iv p2, .val (.long p3), .second, .val (.long p4), .second, iv p5, .val (.long p6), .second, iv b, iv w, .val (.long bm), .second, .val (.long mm), .second, iv b2, iv w2, .val (.long bm2), .second, .val (.long mm2), .second, rv ob1, rv ob3, .unset, .unset, .unset, .unset, .unset, .unset] [(.int (0 : Int32))])
      refine Goes.step ?_ (fun _ k => XS.istore X5.here hx rfl (hb hby at_202) rfl (l' := #[iv p1, iv p2, .val (.long p3), .second, .val (.long p4), .second, iv p5, .val (.long p6), .second, iv b, iv w, .val (.long bm), .second, .val (.long mm), .second, iv b2, iv w2, .val (.long bm2), .second, .val (.long mm2), .second, rv ob1, rv ob3, iv (0 : Int32), .unset, .unset, .unset, .unset, .unset]) rfl k)
      show Goes p e below _ (sF T5 m 204 #[iv p1, iv p2, .val (.long p3), .second, .val (.long p4), .second, iv p5, .val (.long p6), .second, iv b, iv w, .val (.long bm), .second, .val (.long mm), .second, iv b2, iv w2, .val (.long bm2), .second, .val (.long mm2), .second, rv ob1, rv ob3, iv (0 : Int32), .unset, .unset, .unset, .unset, .unset] [])
      have O_31 := ((((O0.ext E1).keep K2 (allS g_ob1 all0)).ext E3).keep K5 (allS g_ob3 all0))
      have E_ob1_32 := ((E_ob1_4.ext E3).keep K5)
      have E_ob3_33 := (A3.keep K5)
      have F_ob1_warnAt_34 := ((G12.ext E3).keep K5 (ninS ne_ob1_ob3 nin0))
      have F_ob1_banAt_35 := ((G22.ext E3).keep K5 (ninS ne_ob1_ob3 nin0))
      have F_ob1_banMillis_36 := ((G32.ext E3).keep K5 (ninS ne_ob1_ob3 nin0))
      have F_ob1_memoryMillis_37 := ((G42.ext E3).keep K5 (ninS ne_ob1_ob3 nin0))
      exact tail204 p1 p2 p3 p4 p5 p6 w b bm mm w2 b2 bm2 mm2 ob1 ob3 (0 : Int32) cc cl X5 hx hZ hw hby hlk hret hml hown rfl N5 Zs5 hS hk O_31 S_high S_cache Ar_cc Sz_cc Hel E_ob1_32 E_ob3_33 F_ob1_warnAt_34 F_ob1_banAt_35 F_ob1_banMillis_36 F_ob1_memoryMillis_37 G15 G25 G35 G45 (by simp only [eqV, hc171_6, hc178_7, if_true, if_false])
  · refine Goes.step ?_ (fun _ k => XS.icmpYes X5.here hx rfl (pc0 := 171) (pc' := 201) rfl (hb hby at_171) rfl (feq hc171_6).2 (by decide) (by decide) k)
    show Goes p e below _ (sF T5 m 201 #[iv p1, iv p2, .val (.long p3), .second, .val (.long p4), .second, iv p5, .val (.long p6), .second, iv b, iv w, .val (.long bm), .second, .val (.long mm), .second, iv b2, iv w2, .val (.long bm2), .second, .val (.long mm2), .second, rv ob1, rv ob3, .unset, .unset, .unset, .unset, .unset, .unset] [])
    refine Goes.step ?_ (fun _ k => XS.iconst X5.here hx rfl (hb hby at_201) k)
    show Goes p e below _ (sF T5 m 202 #[iv p1, iv p2, .val (.long p3), .second, .val (.long p4), .second, iv p5, .val (.long p6), .second, iv b, iv w, .val (.long bm), .second, .val (.long mm), .second, iv b2, iv w2, .val (.long bm2), .second, .val (.long mm2), .second, rv ob1, rv ob3, .unset, .unset, .unset, .unset, .unset, .unset] [(.int (0 : Int32))])
    refine Goes.step ?_ (fun _ k => XS.istore X5.here hx rfl (hb hby at_202) rfl (l' := #[iv p1, iv p2, .val (.long p3), .second, .val (.long p4), .second, iv p5, .val (.long p6), .second, iv b, iv w, .val (.long bm), .second, .val (.long mm), .second, iv b2, iv w2, .val (.long bm2), .second, .val (.long mm2), .second, rv ob1, rv ob3, iv (0 : Int32), .unset, .unset, .unset, .unset, .unset]) rfl k)
    show Goes p e below _ (sF T5 m 204 #[iv p1, iv p2, .val (.long p3), .second, .val (.long p4), .second, iv p5, .val (.long p6), .second, iv b, iv w, .val (.long bm), .second, .val (.long mm), .second, iv b2, iv w2, .val (.long bm2), .second, .val (.long mm2), .second, rv ob1, rv ob3, iv (0 : Int32), .unset, .unset, .unset, .unset, .unset] [])
    have O_38 := ((((O0.ext E1).keep K2 (allS g_ob1 all0)).ext E3).keep K5 (allS g_ob3 all0))
    have E_ob1_39 := ((E_ob1_4.ext E3).keep K5)
    have E_ob3_40 := (A3.keep K5)
    have F_ob1_warnAt_41 := ((G12.ext E3).keep K5 (ninS ne_ob1_ob3 nin0))
    have F_ob1_banAt_42 := ((G22.ext E3).keep K5 (ninS ne_ob1_ob3 nin0))
    have F_ob1_banMillis_43 := ((G32.ext E3).keep K5 (ninS ne_ob1_ob3 nin0))
    have F_ob1_memoryMillis_44 := ((G42.ext E3).keep K5 (ninS ne_ob1_ob3 nin0))
    exact tail204 p1 p2 p3 p4 p5 p6 w b bm mm w2 b2 bm2 mm2 ob1 ob3 (0 : Int32) cc cl X5 hx hZ hw hby hlk hret hml hown rfl N5 Zs5 hS hk O_38 S_high S_cache Ar_cc Sz_cc Hel E_ob1_39 E_ob3_40 F_ob1_warnAt_41 F_ob1_banAt_42 F_ob1_banMillis_43 F_ob1_memoryMillis_44 G15 G25 G35 G45 (by simp only [eqV, hc171_6, if_true, if_false])
theorem own_nz (b : Int32) (h : ¬ b < 1) : b ≠ 0 := fun q => h (by rw [q]; decide)
theorem own_mil (x : Int64) : ¬ (lcmpW (milV x) (1 : Int64)) < 0 ∧ ¬ (0 : Int32) < (lcmpW (milV x) (2592000000 : Int64)) := by
  have h1 := c_maskL x 9223372036854775807 63 (by decide) (by decide)
  have h2 : ((x &&& (9223372036854775807 : Int64)) % (2592000000 : Int64)).toInt = (x &&& (9223372036854775807 : Int64)).toInt % 2592000000 := by
    rw [Int64.toInt_mod, show (2592000000 : Int64).toInt = 2592000000 by decide]
    exact Int.tmod_eq_emod_of_nonneg (by rw [h1]; omega)
  have h3 := c_ladd ((x &&& (9223372036854775807 : Int64)) % (2592000000 : Int64)) 1
  have h4 := rng64 (((x &&& (9223372036854775807 : Int64)) % (2592000000 : Int64)) + 1)
  have e1 : (1 : Int64).toInt = 1 := by decide
  have e2 : (2592000000 : Int64).toInt = 2592000000 := by decide
  rw [lw_lt, lw_gt, Int64.lt_iff_toInt_lt, Int64.lt_iff_toInt_lt, e1, e2]
  simp only [milV]
  rw [h2, e1] at h3
  omega
theorem own_max (x : Int32) : ¬ maxV (1 : Int32) x < 1 := by
  simp only [maxV]
  split
  · rename_i q
    have e1 : (1 : Int32).toInt = 1 := by decide
    simp only [Int32.lt_iff_toInt_lt, e1] at q ⊢
    omega
  · decide
theorem own_w (x b : Int32) (h : ¬ b < 1) : ¬ ((1 : Int32) + ((x &&& (2147483647 : Int32)) % b)) < 1 ∧ ¬ b < ((1 : Int32) + ((x &&& (2147483647 : Int32)) % b)) := by
  have e1 : (1 : Int32).toInt = 1 := by decide
  rw [Int32.lt_iff_toInt_lt, e1] at h
  have h1 := c_mask x 2147483647 31 (by decide) (by decide)
  have h2 := (c_iremV (x &&& (2147483647 : Int32)) b).1 (by rw [h1]; omega) (by omega)
  have h3 := c_iadd 1 ((x &&& (2147483647 : Int32)) % b)
  have h4 := rng32 ((1 : Int32) + ((x &&& (2147483647 : Int32)) % b))
  have h5 := rng32 b
  rw [Int32.lt_iff_toInt_lt, Int32.lt_iff_toInt_lt, e1]
  rw [e1] at h3
  omega
theorem own_min1 (x y : Int32) (h1 : ¬ x < 1) (h2 : ¬ y < 1) : ¬ minV x y < 1 ∧ ¬ y < minV x y := by
  simp only [minV]
  split
  · rename_i q
    have e1 : (1 : Int32).toInt = 1 := by decide
    simp only [Int32.lt_iff_toInt_lt, e1] at *
    omega
  · rename_i q
    exact ⟨h1, q⟩
theorem pd__28J_29J : parseMethodDescriptor "(J)J" = some ⟨[.long], some .long⟩ := by decide +kernel
set_option maxRecDepth 65536 in
set_option maxHeartbeats 40000000 in
theorem tail110 {p : Program} {l : Launch} {e : Env} {s : State} {m : MethodId} {args : Array Value} {below : List Frame} {meth : Method} {c : Code} {T0 : State} {locs : List Loc} {Z : State} {a0 : Array Value} {h0 : Heap} {n0 : Nat} {vm0 : Vm} {k0 : Nat} (p1 : Int32) (p2 : Int32) (p3 : Int64) (p4 : Int64) (p5 : Int32) (p6 : Int64) (w : Int32) (b : Int32) (bm : Int64) (mm : Int64) (w2 : Int32) (b2 : Int32) (bm2 : Int64) (cc : Addr) (cl : Cell)
    (X0 : Stand p l e room_1 (s.setVm vm0) m args below meth c T0 locs (0) (0)) (hx : p.tables.exec = Jvm.exec) (hZ : Z.Warmed39 (s.setVm vm0).vm) (hw : ∀ d ∈ tables_1, d.before a0 Z = true) (hby : c.code = code) (hlk : meth.locks = false) (hret : meth.sig.returnType = some .boolean) (hml : c.maxLocals = 29) (hown : (s.setVm vm0).vm.findClass "com/example/velvet_rope/velvetrope/PenaltyPolicyEqualsPinLaw" = some m.cls) (e0 : T0.heap = h0) (N0 : Fr n0 locs) (Z0 : n0 ≤ h0.size) (hS : s.Since vm0 k0) (hk : k0 ≤ h0.size) (O0 : Old Z n0 h0) (S_high : Sta Z Z.heap "java/lang/Integer$IntegerCache" "high" "I" (.int (127 : Int32))) (S_cache : Sta Z Z.heap "java/lang/Integer$IntegerCache" "cache" "[Ljava/lang/Integer;" (.ref cc)) (Ar_cc : Arr Z Z.heap cc cl (.object "java/lang/Integer")) (Sz_cc : cl.slots.size = 256) (Hel : ∀ i, i < 256 → ∃ x, cl.slots[i]? = some (.ref x) ∧ Exa Z Z.heap x "java/lang/Integer") (hb_b : ¬ b < 1) (hw_w : ¬ w < 1) (hle_w : ¬ b < w) (hb_b2 : ¬ b2 < 1) (hw_w2 : ¬ w2 < 1) (hle_w2 : ¬ b2 < w2) (c1_bm : ¬ (lcmpW bm (1 : Int64)) < 0) (c2_bm : ¬ (0 : Int32) < (lcmpW bm (2592000000 : Int64))) (c1_mm : ¬ (lcmpW mm (1 : Int64)) < 0) (c2_mm : ¬ (0 : Int32) < (lcmpW mm (2592000000 : Int64))) (c1_bm2 : ¬ (lcmpW bm2 (1 : Int64)) < 0) (c2_bm2 : ¬ (0 : Int32) < (lcmpW bm2 (2592000000 : Int64))) :
    Goes p e below (fun o U' => ∃ v L, o = .returned v ∧ Q0 n0 v U'.heap L ∧ ReturnedEndW s o U' L room_1.cells room_1.slots) (T0.setTop (mkF m 110 #[iv p1, iv p2, .val (.long p3), .second, .val (.long p4), .second, iv p5, .val (.long p6), .second, iv b, iv w, .val (.long bm), .second, .val (.long mm), .second, iv b2, iv w2, .val (.long bm2), .second, .unset, .unset, .unset, .unset, .unset, .unset, .unset, .unset, .unset, .unset] [])) := by
  show Goes p e below _ (sF T0 m 110 #[iv p1, iv p2, .val (.long p3), .second, .val (.long p4), .second, iv p5, .val (.long p6), .second, iv b, iv w, .val (.long bm), .second, .val (.long mm), .second, iv b2, iv w2, .val (.long bm2), .second, .unset, .unset, .unset, .unset, .unset, .unset, .unset, .unset, .unset, .unset] [])
  refine Goes.step ?_ (fun _ k => XS.iload X0.here hx rfl (hb hby at_110) rfl  k)
  show Goes p e below _ (sF T0 m 112 #[iv p1, iv p2, .val (.long p3), .second, .val (.long p4), .second, iv p5, .val (.long p6), .second, iv b, iv w, .val (.long bm), .second, .val (.long mm), .second, iv b2, iv w2, .val (.long bm2), .second, .unset, .unset, .unset, .unset, .unset, .unset, .unset, .unset, .unset, .unset] [(.int p5)])
  refine Goes.step ?_ (fun _ k => XS.bipush X0.here hx rfl (hb hby at_112) k)
  show Goes p e below _ (sF T0 m 114 #[iv p1, iv p2, .val (.long p3), .second, .val (.long p4), .second, iv p5, .val (.long p6), .second, iv b, iv w, .val (.long bm), .second, .val (.long mm), .second, iv b2, iv w2, .val (.long bm2), .second, .unset, .unset, .unset, .unset, .unset, .unset, .unset, .unset, .unset, .unset] [(.int (8 : Int32)), (.int p5)])
  refine Goes.step ?_ (fun _ k => XS.iand X0.here hx rfl (hb hby at_114) rfl k)
  show Goes p e below _ (sF T0 m 115 #[iv p1, iv p2, .val (.long p3), .second, .val (.long p4), .second, iv p5, .val (.long p6), .second, iv b, iv w, .val (.long bm), .second, .val (.long mm), .second, iv b2, iv w2, .val (.long bm2), .second, .unset, .unset, .unset, .unset, .unset, .unset, .unset, .unset, .unset, .unset] [(.int (p5 &&& (8 : Int32)))])
  by_cases hc115_1 : (p5 &&& (8 : Int32)) = (0 : Int32)
  · refine Goes.step ?_ (fun _ k => XS.ifYes X0.here hx rfl (pc0 := 115) (pc' := 129) rfl (hb hby at_115) rfl ((if0 _ _).trans (teq hc115_1).1) (by decide) (by decide) k)
    show Goes p e below _ (sF T0 m 129 #[iv p1, iv p2, .val (.long p3), .second, .val (.long p4), .second, iv p5, .val (.long p6), .second, iv b, iv w, .val (.long bm), .second, .val (.long mm), .second, iv b2, iv w2, .val (.long bm2), .second, .unset, .unset, .unset, .unset, .unset, .unset, .unset, .unset, .unset, .unset] [])
    refine Goes.step ?_ (fun _ k => XS.lload X0.here hx rfl (hb hby at_129) rfl  k)
    show Goes p e below _ (sF T0 m 131 #[iv p1, iv p2, .val (.long p3), .second, .val (.long p4), .second, iv p5, .val (.long p6), .second, iv b, iv w, .val (.long bm), .second, .val (.long mm), .second, iv b2, iv w2, .val (.long bm2), .second, .unset, .unset, .unset, .unset, .unset, .unset, .unset, .unset, .unset, .unset] [(.long mm)])
    refine Goes.step ?_ (fun _ k => XS.lstore X0.here hx rfl (hb hby at_131) rfl (l' := #[iv p1, iv p2, .val (.long p3), .second, .val (.long p4), .second, iv p5, .val (.long p6), .second, iv b, iv w, .val (.long bm), .second, .val (.long mm), .second, iv b2, iv w2, .val (.long bm2), .second, .val (.long mm), .second, .unset, .unset, .unset, .unset, .unset, .unset, .unset, .unset]) rfl k)
    show Goes p e below _ (sF T0 m 133 #[iv p1, iv p2, .val (.long p3), .second, .val (.long p4), .second, iv p5, .val (.long p6), .second, iv b, iv w, .val (.long bm), .second, .val (.long mm), .second, iv b2, iv w2, .val (.long bm2), .second, .val (.long mm), .second, .unset, .unset, .unset, .unset, .unset, .unset, .unset, .unset] [])
    exact tail133 p1 p2 p3 p4 p5 p6 w b bm mm w2 b2 bm2 mm cc cl X0 hx hZ hw hby hlk hret hml hown e0 N0 Z0 hS hk O0 S_high S_cache Ar_cc Sz_cc Hel hb_b hw_w hle_w hb_b2 hw_w2 hle_w2 c1_bm c2_bm c1_mm c2_mm c1_bm2 c2_bm2 c1_mm c2_mm
  · refine Goes.step ?_ (fun _ k => XS.ifNo X0.here hx rfl (hb hby at_115) rfl ((if0 _ _).trans (feq hc115_1).1) k)
    show Goes p e below _ (sF T0 m 118 #[iv p1, iv p2, .val (.long p3), .second, .val (.long p4), .second, iv p5, .val (.long p6), .second, iv b, iv w, .val (.long bm), .second, .val (.long mm), .second, iv b2, iv w2, .val (.long bm2), .second, .unset, .unset, .unset, .unset, .unset, .unset, .unset, .unset, .unset, .unset] [])
    refine Goes.step ?_ (fun _ k => XS.lload X0.here hx rfl (hb hby at_118) rfl  k)
    show Goes p e below _ (sF T0 m 120 #[iv p1, iv p2, .val (.long p3), .second, .val (.long p4), .second, iv p5, .val (.long p6), .second, iv b, iv w, .val (.long bm), .second, .val (.long mm), .second, iv b2, iv w2, .val (.long bm2), .second, .unset, .unset, .unset, .unset, .unset, .unset, .unset, .unset, .unset, .unset] [(.long p6)])
    refine Goes.step ?_ (fun _ k => XS.bipush X0.here hx rfl (hb hby at_120) k)
    show Goes p e below _ (sF T0 m 122 #[iv p1, iv p2, .val (.long p3), .second, .val (.long p4), .second, iv p5, .val (.long p6), .second, iv b, iv w, .val (.long bm), .second, .val (.long mm), .second, iv b2, iv w2, .val (.long bm2), .second, .unset, .unset, .unset, .unset, .unset, .unset, .unset, .unset, .unset, .unset] [(.int (7 : Int32)), (.long p6)])
    refine Goes.step ?_ (fun _ k => XS.lushr X0.here hx rfl (hb hby at_122) rfl k)
    show Goes p e below _ (sF T0 m 123 #[iv p1, iv p2, .val (.long p3), .second, .val (.long p4), .second, iv p5, .val (.long p6), .second, iv b, iv w, .val (.long bm), .second, .val (.long mm), .second, iv b2, iv w2, .val (.long bm2), .second, .unset, .unset, .unset, .unset, .unset, .unset, .unset, .unset, .unset, .unset] [(.long ((p6.toUInt64 >>> ((7 : Int32) &&& 0x3f).toInt64.toUInt64).toInt64))])
    obtain ⟨_, _, ⟨T2, L2, k2, n2⟩, -, X2, ⟨Lc2, hQ2, l2, y2, z2⟩, st2⟩ := Jvm.LawKit.callS X0 hx (y := (⟨"com/example/velvet_rope/velvetrope/PenaltyPolicyEqualsPinLaw", "millis", "(J)J"⟩ : MethodName)) hown (mvT hZ (hw _ (List.mem_of_getElem? (i := 5) rfl))) (mvT hZ (hw _ (List.mem_of_getElem? (i := 6) rfl))) (mvT hZ (hw _ (List.mem_of_getElem? (i := 7) rfl))) (mvT hZ (hw _ (List.mem_of_getElem? (i := 8) rfl))) (by decide) (backOf (W := 0) (rmMil l Z a0 hw [] ((p6.toUInt64 >>> ((7 : Int32) &&& 0x3f).toInt64.toUInt64).toInt64)  h0 n0 Z0 ) hZ (hw _ (List.mem_of_getElem? (i := 8) rfl)) (hw _ (List.mem_of_getElem? (i := 7) rfl)) (by decide) (by decide)) (g := (mkF m 123 #[iv p1, iv p2, .val (.long p3), .second, .val (.long p4), .second, iv p5, .val (.long p6), .second, iv b, iv w, .val (.long bm), .second, .val (.long mm), .second, iv b2, iv w2, .val (.long bm2), .second, .unset, .unset, .unset, .unset, .unset, .unset, .unset, .unset, .unset, .unset] [(.long ((p6.toUInt64 >>> ((7 : Int32) &&& 0x3f).toInt64.toUInt64).toInt64))])) rfl (by rw [hml]; rfl) (argsL := [(.long ((p6.toUInt64 >>> ((7 : Int32) &&& 0x3f).toInt64.toUInt64).toInt64))]) (rest := []) (lenOf pd__28J_29J rfl) rfl (by show 2 * 0 + _ ≤ _; exact Nat.le_of_eq rfl) (hb hby at_123) (fun _ _ => ⟨rfl, e0, (by decide : 0 + 0 ≤ _), (by decide : 0 + 0 ≤ _)⟩)
    dsimp only [Pt.U, Pt.locs, Pt.cells, Pt.slots] at X2 l2 y2 z2 st2 hQ2
    subst l2 y2 z2
    obtain ⟨rfl, N2q, e2⟩ := hQ2
    have N2 := Fr.app N0 N2q
    refine Goes.step ?_ st2
    show Goes p e below _ (sF T2 m 126 #[iv p1, iv p2, .val (.long p3), .second, .val (.long p4), .second, iv p5, .val (.long p6), .second, iv b, iv w, .val (.long bm), .second, .val (.long mm), .second, iv b2, iv w2, .val (.long bm2), .second, .unset, .unset, .unset, .unset, .unset, .unset, .unset, .unset, .unset, .unset] [(.long (milV ((p6.toUInt64 >>> ((7 : Int32) &&& 0x3f).toInt64.toUInt64).toInt64)))])
    refine Goes.step ?_ (fun _ k => XS.goto X2.here hx rfl (pc0 := 126) (pc' := 131) rfl (hb hby at_126) (by decide) (by decide) k)
    show Goes p e below _ (sF T2 m 131 #[iv p1, iv p2, .val (.long p3), .second, .val (.long p4), .second, iv p5, .val (.long p6), .second, iv b, iv w, .val (.long bm), .second, .val (.long mm), .second, iv b2, iv w2, .val (.long bm2), .second, .unset, .unset, .unset, .unset, .unset, .unset, .unset, .unset, .unset, .unset] [(.long (milV ((p6.toUInt64 >>> ((7 : Int32) &&& 0x3f).toInt64.toUInt64).toInt64)))])
    refine Goes.step ?_ (fun _ k => XS.lstore X2.here hx rfl (hb hby at_131) rfl (l' := #[iv p1, iv p2, .val (.long p3), .second, .val (.long p4), .second, iv p5, .val (.long p6), .second, iv b, iv w, .val (.long bm), .second, .val (.long mm), .second, iv b2, iv w2, .val (.long bm2), .second, .val (.long (milV ((p6.toUInt64 >>> ((7 : Int32) &&& 0x3f).toInt64.toUInt64).toInt64))), .second, .unset, .unset, .unset, .unset, .unset, .unset, .unset, .unset]) rfl k)
    show Goes p e below _ (sF T2 m 133 #[iv p1, iv p2, .val (.long p3), .second, .val (.long p4), .second, iv p5, .val (.long p6), .second, iv b, iv w, .val (.long bm), .second, .val (.long mm), .second, iv b2, iv w2, .val (.long bm2), .second, .val (.long (milV ((p6.toUInt64 >>> ((7 : Int32) &&& 0x3f).toInt64.toUInt64).toInt64))), .second, .unset, .unset, .unset, .unset, .unset, .unset, .unset, .unset] [])
    exact tail133 p1 p2 p3 p4 p5 p6 w b bm mm w2 b2 bm2 (milV ((p6.toUInt64 >>> ((7 : Int32) &&& 0x3f).toInt64.toUInt64).toInt64)) cc cl X2 hx hZ hw hby hlk hret hml hown e2 N2 Z0 hS hk O0 S_high S_cache Ar_cc Sz_cc Hel hb_b hw_w hle_w hb_b2 hw_w2 hle_w2 c1_bm c2_bm c1_mm c2_mm c1_bm2 c2_bm2 (own_mil _).1 (own_mil _).2
set_option maxRecDepth 65536 in
set_option maxHeartbeats 40000000 in
theorem tail91 {p : Program} {l : Launch} {e : Env} {s : State} {m : MethodId} {args : Array Value} {below : List Frame} {meth : Method} {c : Code} {T0 : State} {locs : List Loc} {Z : State} {a0 : Array Value} {h0 : Heap} {n0 : Nat} {vm0 : Vm} {k0 : Nat} (p1 : Int32) (p2 : Int32) (p3 : Int64) (p4 : Int64) (p5 : Int32) (p6 : Int64) (w : Int32) (b : Int32) (bm : Int64) (mm : Int64) (w2 : Int32) (b2 : Int32) (cc : Addr) (cl : Cell)
    (X0 : Stand p l e room_1 (s.setVm vm0) m args below meth c T0 locs (0) (0)) (hx : p.tables.exec = Jvm.exec) (hZ : Z.Warmed39 (s.setVm vm0).vm) (hw : ∀ d ∈ tables_1, d.before a0 Z = true) (hby : c.code = code) (hlk : meth.locks = false) (hret : meth.sig.returnType = some .boolean) (hml : c.maxLocals = 29) (hown : (s.setVm vm0).vm.findClass "com/example/velvet_rope/velvetrope/PenaltyPolicyEqualsPinLaw" = some m.cls) (e0 : T0.heap = h0) (N0 : Fr n0 locs) (Z0 : n0 ≤ h0.size) (hS : s.Since vm0 k0) (hk : k0 ≤ h0.size) (O0 : Old Z n0 h0) (S_high : Sta Z Z.heap "java/lang/Integer$IntegerCache" "high" "I" (.int (127 : Int32))) (S_cache : Sta Z Z.heap "java/lang/Integer$IntegerCache" "cache" "[Ljava/lang/Integer;" (.ref cc)) (Ar_cc : Arr Z Z.heap cc cl (.object "java/lang/Integer")) (Sz_cc : cl.slots.size = 256) (Hel : ∀ i, i < 256 → ∃ x, cl.slots[i]? = some (.ref x) ∧ Exa Z Z.heap x "java/lang/Integer") (hb_b : ¬ b < 1) (hw_w : ¬ w < 1) (hle_w : ¬ b < w) (hb_b2 : ¬ b2 < 1) (hw_w2 : ¬ w2 < 1) (hle_w2 : ¬ b2 < w2) (c1_bm : ¬ (lcmpW bm (1 : Int64)) < 0) (c2_bm : ¬ (0 : Int32) < (lcmpW bm (2592000000 : Int64))) (c1_mm : ¬ (lcmpW mm (1 : Int64)) < 0) (c2_mm : ¬ (0 : Int32) < (lcmpW mm (2592000000 : Int64))) :
    Goes p e below (fun o U' => ∃ v L, o = .returned v ∧ Q0 n0 v U'.heap L ∧ ReturnedEndW s o U' L room_1.cells room_1.slots) (T0.setTop (mkF m 91 #[iv p1, iv p2, .val (.long p3), .second, .val (.long p4), .second, iv p5, .val (.long p6), .second, iv b, iv w, .val (.long bm), .second, .val (.long mm), .second, iv b2, iv w2, .unset, .unset, .unset, .unset, .unset, .unset, .unset, .unset, .unset, .unset, .unset, .unset] [])) := by
  show Goes p e below _ (sF T0 m 91 #[iv p1, iv p2, .val (.long p3), .second, .val (.long p4), .second, iv p5, .val (.long p6), .second, iv b, iv w, .val (.long bm), .second, .val (.long mm), .second, iv b2, iv w2, .unset, .unset, .unset, .unset, .unset, .unset, .unset, .unset, .unset, .unset, .unset, .unset] [])
  refine Goes.step ?_ (fun _ k => XS.iload X0.here hx rfl (hb hby at_91) rfl  k)
  show Goes p e below _ (sF T0 m 93 #[iv p1, iv p2, .val (.long p3), .second, .val (.long p4), .second, iv p5, .val (.long p6), .second, iv b, iv w, .val (.long bm), .second, .val (.long mm), .second, iv b2, iv w2, .unset, .unset, .unset, .unset, .unset, .unset, .unset, .unset, .unset, .unset, .unset, .unset] [(.int p5)])
  refine Goes.step ?_ (fun _ k => XS.iconst X0.here hx rfl (hb hby at_93) k)
  show Goes p e below _ (sF T0 m 94 #[iv p1, iv p2, .val (.long p3), .second, .val (.long p4), .second, iv p5, .val (.long p6), .second, iv b, iv w, .val (.long bm), .second, .val (.long mm), .second, iv b2, iv w2, .unset, .unset, .unset, .unset, .unset, .unset, .unset, .unset, .unset, .unset, .unset, .unset] [(.int (4 : Int32)), (.int p5)])
  refine Goes.step ?_ (fun _ k => XS.iand X0.here hx rfl (hb hby at_94) rfl k)
  show Goes p e below _ (sF T0 m 95 #[iv p1, iv p2, .val (.long p3), .second, .val (.long p4), .second, iv p5, .val (.long p6), .second, iv b, iv w, .val (.long bm), .second, .val (.long mm), .second, iv b2, iv w2, .unset, .unset, .unset, .unset, .unset, .unset, .unset, .unset, .unset, .unset, .unset, .unset] [(.int (p5 &&& (4 : Int32)))])
  by_cases hc95_1 : (p5 &&& (4 : Int32)) = (0 : Int32)
  · refine Goes.step ?_ (fun _ k => XS.ifYes X0.here hx rfl (pc0 := 95) (pc' := 106) rfl (hb hby at_95) rfl ((if0 _ _).trans (teq hc95_1).1) (by decide) (by decide) k)
    show Goes p e below _ (sF T0 m 106 #[iv p1, iv p2, .val (.long p3), .second, .val (.long p4), .second, iv p5, .val (.long p6), .second, iv b, iv w, .val (.long bm), .second, .val (.long mm), .second, iv b2, iv w2, .unset, .unset, .unset, .unset, .unset, .unset, .unset, .unset, .unset, .unset, .unset, .unset] [])
    refine Goes.step ?_ (fun _ k => XS.lload X0.here hx rfl (hb hby at_106) rfl  k)
    show Goes p e below _ (sF T0 m 108 #[iv p1, iv p2, .val (.long p3), .second, .val (.long p4), .second, iv p5, .val (.long p6), .second, iv b, iv w, .val (.long bm), .second, .val (.long mm), .second, iv b2, iv w2, .unset, .unset, .unset, .unset, .unset, .unset, .unset, .unset, .unset, .unset, .unset, .unset] [(.long bm)])
    refine Goes.step ?_ (fun _ k => XS.lstore X0.here hx rfl (hb hby at_108) rfl (l' := #[iv p1, iv p2, .val (.long p3), .second, .val (.long p4), .second, iv p5, .val (.long p6), .second, iv b, iv w, .val (.long bm), .second, .val (.long mm), .second, iv b2, iv w2, .val (.long bm), .second, .unset, .unset, .unset, .unset, .unset, .unset, .unset, .unset, .unset, .unset]) rfl k)
    show Goes p e below _ (sF T0 m 110 #[iv p1, iv p2, .val (.long p3), .second, .val (.long p4), .second, iv p5, .val (.long p6), .second, iv b, iv w, .val (.long bm), .second, .val (.long mm), .second, iv b2, iv w2, .val (.long bm), .second, .unset, .unset, .unset, .unset, .unset, .unset, .unset, .unset, .unset, .unset] [])
    exact tail110 p1 p2 p3 p4 p5 p6 w b bm mm w2 b2 bm cc cl X0 hx hZ hw hby hlk hret hml hown e0 N0 Z0 hS hk O0 S_high S_cache Ar_cc Sz_cc Hel hb_b hw_w hle_w hb_b2 hw_w2 hle_w2 c1_bm c2_bm c1_mm c2_mm c1_bm c2_bm
  · refine Goes.step ?_ (fun _ k => XS.ifNo X0.here hx rfl (hb hby at_95) rfl ((if0 _ _).trans (feq hc95_1).1) k)
    show Goes p e below _ (sF T0 m 98 #[iv p1, iv p2, .val (.long p3), .second, .val (.long p4), .second, iv p5, .val (.long p6), .second, iv b, iv w, .val (.long bm), .second, .val (.long mm), .second, iv b2, iv w2, .unset, .unset, .unset, .unset, .unset, .unset, .unset, .unset, .unset, .unset, .unset, .unset] [])
    refine Goes.step ?_ (fun _ k => XS.lload X0.here hx rfl (hb hby at_98) rfl  k)
    show Goes p e below _ (sF T0 m 100 #[iv p1, iv p2, .val (.long p3), .second, .val (.long p4), .second, iv p5, .val (.long p6), .second, iv b, iv w, .val (.long bm), .second, .val (.long mm), .second, iv b2, iv w2, .unset, .unset, .unset, .unset, .unset, .unset, .unset, .unset, .unset, .unset, .unset, .unset] [(.long p6)])
    obtain ⟨_, _, ⟨T2, L2, k2, n2⟩, -, X2, ⟨Lc2, hQ2, l2, y2, z2⟩, st2⟩ := Jvm.LawKit.callS X0 hx (y := (⟨"com/example/velvet_rope/velvetrope/PenaltyPolicyEqualsPinLaw", "millis", "(J)J"⟩ : MethodName)) hown (mvT hZ (hw _ (List.mem_of_getElem? (i := 5) rfl))) (mvT hZ (hw _ (List.mem_of_getElem? (i := 6) rfl))) (mvT hZ (hw _ (List.mem_of_getElem? (i := 7) rfl))) (mvT hZ (hw _ (List.mem_of_getElem? (i := 8) rfl))) (by decide) (backOf (W := 0) (rmMil l Z a0 hw [] p6  h0 n0 Z0 ) hZ (hw _ (List.mem_of_getElem? (i := 8) rfl)) (hw _ (List.mem_of_getElem? (i := 7) rfl)) (by decide) (by decide)) (g := (mkF m 100 #[iv p1, iv p2, .val (.long p3), .second, .val (.long p4), .second, iv p5, .val (.long p6), .second, iv b, iv w, .val (.long bm), .second, .val (.long mm), .second, iv b2, iv w2, .unset, .unset, .unset, .unset, .unset, .unset, .unset, .unset, .unset, .unset, .unset, .unset] [(.long p6)])) rfl (by rw [hml]; rfl) (argsL := [(.long p6)]) (rest := []) (lenOf pd__28J_29J rfl) rfl (by show 2 * 0 + _ ≤ _; exact Nat.le_of_eq rfl) (hb hby at_100) (fun _ _ => ⟨rfl, e0, (by decide : 0 + 0 ≤ _), (by decide : 0 + 0 ≤ _)⟩)
    dsimp only [Pt.U, Pt.locs, Pt.cells, Pt.slots] at X2 l2 y2 z2 st2 hQ2
    subst l2 y2 z2
    obtain ⟨rfl, N2q, e2⟩ := hQ2
    have N2 := Fr.app N0 N2q
    refine Goes.step ?_ st2
    show Goes p e below _ (sF T2 m 103 #[iv p1, iv p2, .val (.long p3), .second, .val (.long p4), .second, iv p5, .val (.long p6), .second, iv b, iv w, .val (.long bm), .second, .val (.long mm), .second, iv b2, iv w2, .unset, .unset, .unset, .unset, .unset, .unset, .unset, .unset, .unset, .unset, .unset, .unset] [(.long (milV p6))])
    refine Goes.step ?_ (fun _ k => XS.goto X2.here hx rfl (pc0 := 103) (pc' := 108) rfl (hb hby at_103) (by decide) (by decide) k)
    show Goes p e below _ (sF T2 m 108 #[iv p1, iv p2, .val (.long p3), .second, .val (.long p4), .second, iv p5, .val (.long p6), .second, iv b, iv w, .val (.long bm), .second, .val (.long mm), .second, iv b2, iv w2, .unset, .unset, .unset, .unset, .unset, .unset, .unset, .unset, .unset, .unset, .unset, .unset] [(.long (milV p6))])
    refine Goes.step ?_ (fun _ k => XS.lstore X2.here hx rfl (hb hby at_108) rfl (l' := #[iv p1, iv p2, .val (.long p3), .second, .val (.long p4), .second, iv p5, .val (.long p6), .second, iv b, iv w, .val (.long bm), .second, .val (.long mm), .second, iv b2, iv w2, .val (.long (milV p6)), .second, .unset, .unset, .unset, .unset, .unset, .unset, .unset, .unset, .unset, .unset]) rfl k)
    show Goes p e below _ (sF T2 m 110 #[iv p1, iv p2, .val (.long p3), .second, .val (.long p4), .second, iv p5, .val (.long p6), .second, iv b, iv w, .val (.long bm), .second, .val (.long mm), .second, iv b2, iv w2, .val (.long (milV p6)), .second, .unset, .unset, .unset, .unset, .unset, .unset, .unset, .unset, .unset, .unset] [])
    exact tail110 p1 p2 p3 p4 p5 p6 w b bm mm w2 b2 (milV p6) cc cl X2 hx hZ hw hby hlk hret hml hown e2 N2 Z0 hS hk O0 S_high S_cache Ar_cc Sz_cc Hel hb_b hw_w hle_w hb_b2 hw_w2 hle_w2 c1_bm c2_bm c1_mm c2_mm (own_mil _).1 (own_mil _).2
theorem pd__28II_29I : parseMethodDescriptor "(II)I" = some ⟨[.int, .int], some .int⟩ := by decide +kernel
set_option maxRecDepth 65536 in
set_option maxHeartbeats 40000000 in
theorem tail61 {p : Program} {l : Launch} {e : Env} {s : State} {m : MethodId} {args : Array Value} {below : List Frame} {meth : Method} {c : Code} {T0 : State} {locs : List Loc} {Z : State} {a0 : Array Value} {h0 : Heap} {n0 : Nat} {vm0 : Vm} {k0 : Nat} (p1 : Int32) (p2 : Int32) (p3 : Int64) (p4 : Int64) (p5 : Int32) (p6 : Int64) (w : Int32) (b : Int32) (bm : Int64) (mm : Int64) (b2 : Int32) (cc : Addr) (cl : Cell)
    (X0 : Stand p l e room_1 (s.setVm vm0) m args below meth c T0 locs (0) (0)) (hx : p.tables.exec = Jvm.exec) (hZ : Z.Warmed39 (s.setVm vm0).vm) (hw : ∀ d ∈ tables_1, d.before a0 Z = true) (hby : c.code = code) (hlk : meth.locks = false) (hret : meth.sig.returnType = some .boolean) (hml : c.maxLocals = 29) (hown : (s.setVm vm0).vm.findClass "com/example/velvet_rope/velvetrope/PenaltyPolicyEqualsPinLaw" = some m.cls) (e0 : T0.heap = h0) (N0 : Fr n0 locs) (Z0 : n0 ≤ h0.size) (hS : s.Since vm0 k0) (hk : k0 ≤ h0.size) (O0 : Old Z n0 h0) (S_high : Sta Z Z.heap "java/lang/Integer$IntegerCache" "high" "I" (.int (127 : Int32))) (S_cache : Sta Z Z.heap "java/lang/Integer$IntegerCache" "cache" "[Ljava/lang/Integer;" (.ref cc)) (Ar_cc : Arr Z Z.heap cc cl (.object "java/lang/Integer")) (Sz_cc : cl.slots.size = 256) (Hel : ∀ i, i < 256 → ∃ x, cl.slots[i]? = some (.ref x) ∧ Exa Z Z.heap x "java/lang/Integer") (hb_b : ¬ b < 1) (hw_w : ¬ w < 1) (hle_w : ¬ b < w) (hb_b2 : ¬ b2 < 1) (c1_bm : ¬ (lcmpW bm (1 : Int64)) < 0) (c2_bm : ¬ (0 : Int32) < (lcmpW bm (2592000000 : Int64))) (c1_mm : ¬ (lcmpW mm (1 : Int64)) < 0) (c2_mm : ¬ (0 : Int32) < (lcmpW mm (2592000000 : Int64))) :
    Goes p e below (fun o U' => ∃ v L, o = .returned v ∧ Q0 n0 v U'.heap L ∧ ReturnedEndW s o U' L room_1.cells room_1.slots) (T0.setTop (mkF m 61 #[iv p1, iv p2, .val (.long p3), .second, .val (.long p4), .second, iv p5, .val (.long p6), .second, iv b, iv w, .val (.long bm), .second, .val (.long mm), .second, iv b2, .unset, .unset, .unset, .unset, .unset, .unset, .unset, .unset, .unset, .unset, .unset, .unset, .unset] [])) := by
  show Goes p e below _ (sF T0 m 61 #[iv p1, iv p2, .val (.long p3), .second, .val (.long p4), .second, iv p5, .val (.long p6), .second, iv b, iv w, .val (.long bm), .second, .val (.long mm), .second, iv b2, .unset, .unset, .unset, .unset, .unset, .unset, .unset, .unset, .unset, .unset, .unset, .unset, .unset] [])
  refine Goes.step ?_ (fun _ k => XS.iload X0.here hx rfl (hb hby at_61) rfl  k)
  show Goes p e below _ (sF T0 m 63 #[iv p1, iv p2, .val (.long p3), .second, .val (.long p4), .second, iv p5, .val (.long p6), .second, iv b, iv w, .val (.long bm), .second, .val (.long mm), .second, iv b2, .unset, .unset, .unset, .unset, .unset, .unset, .unset, .unset, .unset, .unset, .unset, .unset, .unset] [(.int p5)])
  refine Goes.step ?_ (fun _ k => XS.iconst X0.here hx rfl (hb hby at_63) k)
  show Goes p e below _ (sF T0 m 64 #[iv p1, iv p2, .val (.long p3), .second, .val (.long p4), .second, iv p5, .val (.long p6), .second, iv b, iv w, .val (.long bm), .second, .val (.long mm), .second, iv b2, .unset, .unset, .unset, .unset, .unset, .unset, .unset, .unset, .unset, .unset, .unset, .unset, .unset] [(.int (1 : Int32)), (.int p5)])
  refine Goes.step ?_ (fun _ k => XS.iand X0.here hx rfl (hb hby at_64) rfl k)
  show Goes p e below _ (sF T0 m 65 #[iv p1, iv p2, .val (.long p3), .second, .val (.long p4), .second, iv p5, .val (.long p6), .second, iv b, iv w, .val (.long bm), .second, .val (.long mm), .second, iv b2, .unset, .unset, .unset, .unset, .unset, .unset, .unset, .unset, .unset, .unset, .unset, .unset, .unset] [(.int (p5 &&& (1 : Int32)))])
  by_cases hc65_1 : (p5 &&& (1 : Int32)) = (0 : Int32)
  · refine Goes.step ?_ (fun _ k => XS.ifYes X0.here hx rfl (pc0 := 65) (pc' := 82) rfl (hb hby at_65) rfl ((if0 _ _).trans (teq hc65_1).1) (by decide) (by decide) k)
    show Goes p e below _ (sF T0 m 82 #[iv p1, iv p2, .val (.long p3), .second, .val (.long p4), .second, iv p5, .val (.long p6), .second, iv b, iv w, .val (.long bm), .second, .val (.long mm), .second, iv b2, .unset, .unset, .unset, .unset, .unset, .unset, .unset, .unset, .unset, .unset, .unset, .unset, .unset] [])
    refine Goes.step ?_ (fun _ k => XS.iload X0.here hx rfl (hb hby at_82) rfl  k)
    show Goes p e below _ (sF T0 m 84 #[iv p1, iv p2, .val (.long p3), .second, .val (.long p4), .second, iv p5, .val (.long p6), .second, iv b, iv w, .val (.long bm), .second, .val (.long mm), .second, iv b2, .unset, .unset, .unset, .unset, .unset, .unset, .unset, .unset, .unset, .unset, .unset, .unset, .unset] [(.int w)])
    refine Goes.step ?_ (fun _ k => XS.iload X0.here hx rfl (hb hby at_84) rfl  k)
    show Goes p e below _ (sF T0 m 86 #[iv p1, iv p2, .val (.long p3), .second, .val (.long p4), .second, iv p5, .val (.long p6), .second, iv b, iv w, .val (.long bm), .second, .val (.long mm), .second, iv b2, .unset, .unset, .unset, .unset, .unset, .unset, .unset, .unset, .unset, .unset, .unset, .unset, .unset] [(.int b2), (.int w)])
    obtain ⟨_, _, ⟨T2, L2, k2, n2⟩, -, X2, ⟨Lc2, hQ2, l2, y2, z2⟩, st2⟩ := Jvm.LawKit.callS X0 hx (y := (⟨"java/lang/Math", "min", "(II)I"⟩ : MethodName)) hown (mvT hZ (hw _ (List.mem_of_getElem? (i := 11) rfl))) (mvT hZ (hw _ (List.mem_of_getElem? (i := 12) rfl))) (mvT hZ (hw _ (List.mem_of_getElem? (i := 3) rfl))) (mvT hZ (hw _ (List.mem_of_getElem? (i := 13) rfl))) (by decide) (backOf (W := 0) (rmMin l Z a0 hw [] w b2  h0 n0 Z0 ) hZ (hw _ (List.mem_of_getElem? (i := 13) rfl)) (hw _ (List.mem_of_getElem? (i := 3) rfl)) (by decide) (by decide)) (g := (mkF m 86 #[iv p1, iv p2, .val (.long p3), .second, .val (.long p4), .second, iv p5, .val (.long p6), .second, iv b, iv w, .val (.long bm), .second, .val (.long mm), .second, iv b2, .unset, .unset, .unset, .unset, .unset, .unset, .unset, .unset, .unset, .unset, .unset, .unset, .unset] [(.int b2), (.int w)])) rfl (by rw [hml]; rfl) (argsL := [(.int w), (.int b2)]) (rest := []) (lenOf pd__28II_29I rfl) rfl (by show 2 * 0 + _ ≤ _; exact Nat.le_of_eq rfl) (hb hby at_86) (fun _ _ => ⟨rfl, e0, (by decide : 0 + 0 ≤ _), (by decide : 0 + 0 ≤ _)⟩)
    dsimp only [Pt.U, Pt.locs, Pt.cells, Pt.slots] at X2 l2 y2 z2 st2 hQ2
    subst l2 y2 z2
    obtain ⟨rfl, N2q, e2⟩ := hQ2
    have N2 := Fr.app N0 N2q
    refine Goes.step ?_ st2
    show Goes p e below _ (sF T2 m 89 #[iv p1, iv p2, .val (.long p3), .second, .val (.long p4), .second, iv p5, .val (.long p6), .second, iv b, iv w, .val (.long bm), .second, .val (.long mm), .second, iv b2, .unset, .unset, .unset, .unset, .unset, .unset, .unset, .unset, .unset, .unset, .unset, .unset, .unset] [(.int (minV w b2))])
    refine Goes.step ?_ (fun _ k => XS.istore X2.here hx rfl (hb hby at_89) rfl (l' := #[iv p1, iv p2, .val (.long p3), .second, .val (.long p4), .second, iv p5, .val (.long p6), .second, iv b, iv w, .val (.long bm), .second, .val (.long mm), .second, iv b2, iv (minV w b2), .unset, .unset, .unset, .unset, .unset, .unset, .unset, .unset, .unset, .unset, .unset, .unset]) rfl k)
    show Goes p e below _ (sF T2 m 91 #[iv p1, iv p2, .val (.long p3), .second, .val (.long p4), .second, iv p5, .val (.long p6), .second, iv b, iv w, .val (.long bm), .second, .val (.long mm), .second, iv b2, iv (minV w b2), .unset, .unset, .unset, .unset, .unset, .unset, .unset, .unset, .unset, .unset, .unset, .unset] [])
    exact tail91 p1 p2 p3 p4 p5 p6 w b bm mm (minV w b2) b2 cc cl X2 hx hZ hw hby hlk hret hml hown e2 N2 Z0 hS hk O0 S_high S_cache Ar_cc Sz_cc Hel hb_b hw_w hle_w hb_b2 (own_min1 w b2 hw_w hb_b2).1 (own_min1 w b2 hw_w hb_b2).2 c1_bm c2_bm c1_mm c2_mm
  · refine Goes.step ?_ (fun _ k => XS.ifNo X0.here hx rfl (hb hby at_65) rfl ((if0 _ _).trans (feq hc65_1).1) k)
    show Goes p e below _ (sF T0 m 68 #[iv p1, iv p2, .val (.long p3), .second, .val (.long p4), .second, iv p5, .val (.long p6), .second, iv b, iv w, .val (.long bm), .second, .val (.long mm), .second, iv b2, .unset, .unset, .unset, .unset, .unset, .unset, .unset, .unset, .unset, .unset, .unset, .unset, .unset] [])
    refine Goes.step ?_ (fun _ k => XS.iconst X0.here hx rfl (hb hby at_68) k)
    show Goes p e below _ (sF T0 m 69 #[iv p1, iv p2, .val (.long p3), .second, .val (.long p4), .second, iv p5, .val (.long p6), .second, iv b, iv w, .val (.long bm), .second, .val (.long mm), .second, iv b2, .unset, .unset, .unset, .unset, .unset, .unset, .unset, .unset, .unset, .unset, .unset, .unset, .unset] [(.int (1 : Int32))])
    refine Goes.step ?_ (fun _ k => XS.lload X0.here hx rfl (hb hby at_69) rfl  k)
    show Goes p e below _ (sF T0 m 71 #[iv p1, iv p2, .val (.long p3), .second, .val (.long p4), .second, iv p5, .val (.long p6), .second, iv b, iv w, .val (.long bm), .second, .val (.long mm), .second, iv b2, .unset, .unset, .unset, .unset, .unset, .unset, .unset, .unset, .unset, .unset, .unset, .unset, .unset] [(.long p6), (.int (1 : Int32))])
    refine Goes.step ?_ (fun _ k => XS.l2i X0.here hx rfl (hb hby at_71) rfl k)
    show Goes p e below _ (sF T0 m 72 #[iv p1, iv p2, .val (.long p3), .second, .val (.long p4), .second, iv p5, .val (.long p6), .second, iv b, iv w, .val (.long bm), .second, .val (.long mm), .second, iv b2, .unset, .unset, .unset, .unset, .unset, .unset, .unset, .unset, .unset, .unset, .unset, .unset, .unset] [(.int (p6.toInt32)), (.int (1 : Int32))])
    refine Goes.step ?_ (fun _ k => X0.ldcI hx hown (mvT hZ (hw _ (List.mem_of_getElem? (i := 0) rfl))) rfl (hb hby at_72) k)
    show Goes p e below _ (sF T0 m 74 #[iv p1, iv p2, .val (.long p3), .second, .val (.long p4), .second, iv p5, .val (.long p6), .second, iv b, iv w, .val (.long bm), .second, .val (.long mm), .second, iv b2, .unset, .unset, .unset, .unset, .unset, .unset, .unset, .unset, .unset, .unset, .unset, .unset, .unset] [(.int (2147483647 : Int32)), (.int (p6.toInt32)), (.int (1 : Int32))])
    refine Goes.step ?_ (fun _ k => XS.iand X0.here hx rfl (hb hby at_74) rfl k)
    show Goes p e below _ (sF T0 m 75 #[iv p1, iv p2, .val (.long p3), .second, .val (.long p4), .second, iv p5, .val (.long p6), .second, iv b, iv w, .val (.long bm), .second, .val (.long mm), .second, iv b2, .unset, .unset, .unset, .unset, .unset, .unset, .unset, .unset, .unset, .unset, .unset, .unset, .unset] [(.int ((p6.toInt32) &&& (2147483647 : Int32))), (.int (1 : Int32))])
    refine Goes.step ?_ (fun _ k => XS.iload X0.here hx rfl (hb hby at_75) rfl  k)
    show Goes p e below _ (sF T0 m 77 #[iv p1, iv p2, .val (.long p3), .second, .val (.long p4), .second, iv p5, .val (.long p6), .second, iv b, iv w, .val (.long bm), .second, .val (.long mm), .second, iv b2, .unset, .unset, .unset, .unset, .unset, .unset, .unset, .unset, .unset, .unset, .unset, .unset, .unset] [(.int b2), (.int ((p6.toInt32) &&& (2147483647 : Int32))), (.int (1 : Int32))])
    refine Goes.step ?_ (fun _ k => iremM X0 hx rfl (hb hby at_77) rfl (own_nz b2 hb_b2) k)
    show Goes p e below _ (sF T0 m 78 #[iv p1, iv p2, .val (.long p3), .second, .val (.long p4), .second, iv p5, .val (.long p6), .second, iv b, iv w, .val (.long bm), .second, .val (.long mm), .second, iv b2, .unset, .unset, .unset, .unset, .unset, .unset, .unset, .unset, .unset, .unset, .unset, .unset, .unset] [(.int (((p6.toInt32) &&& (2147483647 : Int32)) % b2)), (.int (1 : Int32))])
    refine Goes.step ?_ (fun _ k => XS.iadd X0.here hx rfl (hb hby at_78) rfl k)
    show Goes p e below _ (sF T0 m 79 #[iv p1, iv p2, .val (.long p3), .second, .val (.long p4), .second, iv p5, .val (.long p6), .second, iv b, iv w, .val (.long bm), .second, .val (.long mm), .second, iv b2, .unset, .unset, .unset, .unset, .unset, .unset, .unset, .unset, .unset, .unset, .unset, .unset, .unset] [(.int ((1 : Int32) + (((p6.toInt32) &&& (2147483647 : Int32)) % b2)))])
    refine Goes.step ?_ (fun _ k => XS.goto X0.here hx rfl (pc0 := 79) (pc' := 89) rfl (hb hby at_79) (by decide) (by decide) k)
    show Goes p e below _ (sF T0 m 89 #[iv p1, iv p2, .val (.long p3), .second, .val (.long p4), .second, iv p5, .val (.long p6), .second, iv b, iv w, .val (.long bm), .second, .val (.long mm), .second, iv b2, .unset, .unset, .unset, .unset, .unset, .unset, .unset, .unset, .unset, .unset, .unset, .unset, .unset] [(.int ((1 : Int32) + (((p6.toInt32) &&& (2147483647 : Int32)) % b2)))])
    refine Goes.step ?_ (fun _ k => XS.istore X0.here hx rfl (hb hby at_89) rfl (l' := #[iv p1, iv p2, .val (.long p3), .second, .val (.long p4), .second, iv p5, .val (.long p6), .second, iv b, iv w, .val (.long bm), .second, .val (.long mm), .second, iv b2, iv ((1 : Int32) + (((p6.toInt32) &&& (2147483647 : Int32)) % b2)), .unset, .unset, .unset, .unset, .unset, .unset, .unset, .unset, .unset, .unset, .unset, .unset]) rfl k)
    show Goes p e below _ (sF T0 m 91 #[iv p1, iv p2, .val (.long p3), .second, .val (.long p4), .second, iv p5, .val (.long p6), .second, iv b, iv w, .val (.long bm), .second, .val (.long mm), .second, iv b2, iv ((1 : Int32) + (((p6.toInt32) &&& (2147483647 : Int32)) % b2)), .unset, .unset, .unset, .unset, .unset, .unset, .unset, .unset, .unset, .unset, .unset, .unset] [])
    exact tail91 p1 p2 p3 p4 p5 p6 w b bm mm ((1 : Int32) + (((p6.toInt32) &&& (2147483647 : Int32)) % b2)) b2 cc cl X0 hx hZ hw hby hlk hret hml hown e0 N0 Z0 hS hk O0 S_high S_cache Ar_cc Sz_cc Hel hb_b hw_w hle_w hb_b2 (own_w _ b2 hb_b2).1 (own_w _ b2 hb_b2).2 c1_bm c2_bm c1_mm c2_mm
set_option maxRecDepth 65536 in
set_option maxHeartbeats 40000000 in
theorem tail34 {p : Program} {l : Launch} {e : Env} {s : State} {m : MethodId} {args : Array Value} {below : List Frame} {meth : Method} {c : Code} {T0 : State} {locs : List Loc} {Z : State} {a0 : Array Value} {h0 : Heap} {n0 : Nat} {vm0 : Vm} {k0 : Nat} (p1 : Int32) (p2 : Int32) (p3 : Int64) (p4 : Int64) (p5 : Int32) (p6 : Int64) (w : Int32) (b : Int32) (bm : Int64) (mm : Int64) (cc : Addr) (cl : Cell)
    (X0 : Stand p l e room_1 (s.setVm vm0) m args below meth c T0 locs (0) (0)) (hx : p.tables.exec = Jvm.exec) (hZ : Z.Warmed39 (s.setVm vm0).vm) (hw : ∀ d ∈ tables_1, d.before a0 Z = true) (hby : c.code = code) (hlk : meth.locks = false) (hret : meth.sig.returnType = some .boolean) (hml : c.maxLocals = 29) (hown : (s.setVm vm0).vm.findClass "com/example/velvet_rope/velvetrope/PenaltyPolicyEqualsPinLaw" = some m.cls) (e0 : T0.heap = h0) (N0 : Fr n0 locs) (Z0 : n0 ≤ h0.size) (hS : s.Since vm0 k0) (hk : k0 ≤ h0.size) (O0 : Old Z n0 h0) (S_high : Sta Z Z.heap "java/lang/Integer$IntegerCache" "high" "I" (.int (127 : Int32))) (S_cache : Sta Z Z.heap "java/lang/Integer$IntegerCache" "cache" "[Ljava/lang/Integer;" (.ref cc)) (Ar_cc : Arr Z Z.heap cc cl (.object "java/lang/Integer")) (Sz_cc : cl.slots.size = 256) (Hel : ∀ i, i < 256 → ∃ x, cl.slots[i]? = some (.ref x) ∧ Exa Z Z.heap x "java/lang/Integer") (hb_b : ¬ b < 1) (hw_w : ¬ w < 1) (hle_w : ¬ b < w) (c1_bm : ¬ (lcmpW bm (1 : Int64)) < 0) (c2_bm : ¬ (0 : Int32) < (lcmpW bm (2592000000 : Int64))) (c1_mm : ¬ (lcmpW mm (1 : Int64)) < 0) (c2_mm : ¬ (0 : Int32) < (lcmpW mm (2592000000 : Int64))) :
    Goes p e below (fun o U' => ∃ v L, o = .returned v ∧ Q0 n0 v U'.heap L ∧ ReturnedEndW s o U' L room_1.cells room_1.slots) (T0.setTop (mkF m 34 #[iv p1, iv p2, .val (.long p3), .second, .val (.long p4), .second, iv p5, .val (.long p6), .second, iv b, iv w, .val (.long bm), .second, .val (.long mm), .second, .unset, .unset, .unset, .unset, .unset, .unset, .unset, .unset, .unset, .unset, .unset, .unset, .unset, .unset] [])) := by
  show Goes p e below _ (sF T0 m 34 #[iv p1, iv p2, .val (.long p3), .second, .val (.long p4), .second, iv p5, .val (.long p6), .second, iv b, iv w, .val (.long bm), .second, .val (.long mm), .second, .unset, .unset, .unset, .unset, .unset, .unset, .unset, .unset, .unset, .unset, .unset, .unset, .unset, .unset] [])
  refine Goes.step ?_ (fun _ k => XS.iload X0.here hx rfl (hb hby at_34) rfl  k)
  show Goes p e below _ (sF T0 m 36 #[iv p1, iv p2, .val (.long p3), .second, .val (.long p4), .second, iv p5, .val (.long p6), .second, iv b, iv w, .val (.long bm), .second, .val (.long mm), .second, .unset, .unset, .unset, .unset, .unset, .unset, .unset, .unset, .unset, .unset, .unset, .unset, .unset, .unset] [(.int p5)])
  refine Goes.step ?_ (fun _ k => XS.iconst X0.here hx rfl (hb hby at_36) k)
  show Goes p e below _ (sF T0 m 37 #[iv p1, iv p2, .val (.long p3), .second, .val (.long p4), .second, iv p5, .val (.long p6), .second, iv b, iv w, .val (.long bm), .second, .val (.long mm), .second, .unset, .unset, .unset, .unset, .unset, .unset, .unset, .unset, .unset, .unset, .unset, .unset, .unset, .unset] [(.int (2 : Int32)), (.int p5)])
  refine Goes.step ?_ (fun _ k => XS.iand X0.here hx rfl (hb hby at_37) rfl k)
  show Goes p e below _ (sF T0 m 38 #[iv p1, iv p2, .val (.long p3), .second, .val (.long p4), .second, iv p5, .val (.long p6), .second, iv b, iv w, .val (.long bm), .second, .val (.long mm), .second, .unset, .unset, .unset, .unset, .unset, .unset, .unset, .unset, .unset, .unset, .unset, .unset, .unset, .unset] [(.int (p5 &&& (2 : Int32)))])
  by_cases hc38_1 : (p5 &&& (2 : Int32)) = (0 : Int32)
  · refine Goes.step ?_ (fun _ k => XS.ifYes X0.here hx rfl (pc0 := 38) (pc' := 57) rfl (hb hby at_38) rfl ((if0 _ _).trans (teq hc38_1).1) (by decide) (by decide) k)
    show Goes p e below _ (sF T0 m 57 #[iv p1, iv p2, .val (.long p3), .second, .val (.long p4), .second, iv p5, .val (.long p6), .second, iv b, iv w, .val (.long bm), .second, .val (.long mm), .second, .unset, .unset, .unset, .unset, .unset, .unset, .unset, .unset, .unset, .unset, .unset, .unset, .unset, .unset] [])
    refine Goes.step ?_ (fun _ k => XS.iload X0.here hx rfl (hb hby at_57) rfl  k)
    show Goes p e below _ (sF T0 m 59 #[iv p1, iv p2, .val (.long p3), .second, .val (.long p4), .second, iv p5, .val (.long p6), .second, iv b, iv w, .val (.long bm), .second, .val (.long mm), .second, .unset, .unset, .unset, .unset, .unset, .unset, .unset, .unset, .unset, .unset, .unset, .unset, .unset, .unset] [(.int b)])
    refine Goes.step ?_ (fun _ k => XS.istore X0.here hx rfl (hb hby at_59) rfl (l' := #[iv p1, iv p2, .val (.long p3), .second, .val (.long p4), .second, iv p5, .val (.long p6), .second, iv b, iv w, .val (.long bm), .second, .val (.long mm), .second, iv b, .unset, .unset, .unset, .unset, .unset, .unset, .unset, .unset, .unset, .unset, .unset, .unset, .unset]) rfl k)
    show Goes p e below _ (sF T0 m 61 #[iv p1, iv p2, .val (.long p3), .second, .val (.long p4), .second, iv p5, .val (.long p6), .second, iv b, iv w, .val (.long bm), .second, .val (.long mm), .second, iv b, .unset, .unset, .unset, .unset, .unset, .unset, .unset, .unset, .unset, .unset, .unset, .unset, .unset] [])
    exact tail61 p1 p2 p3 p4 p5 p6 w b bm mm b cc cl X0 hx hZ hw hby hlk hret hml hown e0 N0 Z0 hS hk O0 S_high S_cache Ar_cc Sz_cc Hel hb_b hw_w hle_w hb_b c1_bm c2_bm c1_mm c2_mm
  · refine Goes.step ?_ (fun _ k => XS.ifNo X0.here hx rfl (hb hby at_38) rfl ((if0 _ _).trans (feq hc38_1).1) k)
    show Goes p e below _ (sF T0 m 41 #[iv p1, iv p2, .val (.long p3), .second, .val (.long p4), .second, iv p5, .val (.long p6), .second, iv b, iv w, .val (.long bm), .second, .val (.long mm), .second, .unset, .unset, .unset, .unset, .unset, .unset, .unset, .unset, .unset, .unset, .unset, .unset, .unset, .unset] [])
    refine Goes.step ?_ (fun _ k => XS.iconst X0.here hx rfl (hb hby at_41) k)
    show Goes p e below _ (sF T0 m 42 #[iv p1, iv p2, .val (.long p3), .second, .val (.long p4), .second, iv p5, .val (.long p6), .second, iv b, iv w, .val (.long bm), .second, .val (.long mm), .second, .unset, .unset, .unset, .unset, .unset, .unset, .unset, .unset, .unset, .unset, .unset, .unset, .unset, .unset] [(.int (1 : Int32))])
    refine Goes.step ?_ (fun _ k => XS.lload X0.here hx rfl (hb hby at_42) rfl  k)
    show Goes p e below _ (sF T0 m 44 #[iv p1, iv p2, .val (.long p3), .second, .val (.long p4), .second, iv p5, .val (.long p6), .second, iv b, iv w, .val (.long bm), .second, .val (.long mm), .second, .unset, .unset, .unset, .unset, .unset, .unset, .unset, .unset, .unset, .unset, .unset, .unset, .unset, .unset] [(.long p6), (.int (1 : Int32))])
    refine Goes.step ?_ (fun _ k => XS.bipush X0.here hx rfl (hb hby at_44) k)
    show Goes p e below _ (sF T0 m 46 #[iv p1, iv p2, .val (.long p3), .second, .val (.long p4), .second, iv p5, .val (.long p6), .second, iv b, iv w, .val (.long bm), .second, .val (.long mm), .second, .unset, .unset, .unset, .unset, .unset, .unset, .unset, .unset, .unset, .unset, .unset, .unset, .unset, .unset] [(.int (32 : Int32)), (.long p6), (.int (1 : Int32))])
    refine Goes.step ?_ (fun _ k => XS.lushr X0.here hx rfl (hb hby at_46) rfl k)
    show Goes p e below _ (sF T0 m 47 #[iv p1, iv p2, .val (.long p3), .second, .val (.long p4), .second, iv p5, .val (.long p6), .second, iv b, iv w, .val (.long bm), .second, .val (.long mm), .second, .unset, .unset, .unset, .unset, .unset, .unset, .unset, .unset, .unset, .unset, .unset, .unset, .unset, .unset] [(.long ((p6.toUInt64 >>> ((32 : Int32) &&& 0x3f).toInt64.toUInt64).toInt64)), (.int (1 : Int32))])
    refine Goes.step ?_ (fun _ k => XS.l2i X0.here hx rfl (hb hby at_47) rfl k)
    show Goes p e below _ (sF T0 m 48 #[iv p1, iv p2, .val (.long p3), .second, .val (.long p4), .second, iv p5, .val (.long p6), .second, iv b, iv w, .val (.long bm), .second, .val (.long mm), .second, .unset, .unset, .unset, .unset, .unset, .unset, .unset, .unset, .unset, .unset, .unset, .unset, .unset, .unset] [(.int (((p6.toUInt64 >>> ((32 : Int32) &&& 0x3f).toInt64.toUInt64).toInt64).toInt32)), (.int (1 : Int32))])
    refine Goes.step ?_ (fun _ k => X0.ldcI hx hown (mvT hZ (hw _ (List.mem_of_getElem? (i := 0) rfl))) rfl (hb hby at_48) k)
    show Goes p e below _ (sF T0 m 50 #[iv p1, iv p2, .val (.long p3), .second, .val (.long p4), .second, iv p5, .val (.long p6), .second, iv b, iv w, .val (.long bm), .second, .val (.long mm), .second, .unset, .unset, .unset, .unset, .unset, .unset, .unset, .unset, .unset, .unset, .unset, .unset, .unset, .unset] [(.int (2147483647 : Int32)), (.int (((p6.toUInt64 >>> ((32 : Int32) &&& 0x3f).toInt64.toUInt64).toInt64).toInt32)), (.int (1 : Int32))])
    refine Goes.step ?_ (fun _ k => XS.iand X0.here hx rfl (hb hby at_50) rfl k)
    show Goes p e below _ (sF T0 m 51 #[iv p1, iv p2, .val (.long p3), .second, .val (.long p4), .second, iv p5, .val (.long p6), .second, iv b, iv w, .val (.long bm), .second, .val (.long mm), .second, .unset, .unset, .unset, .unset, .unset, .unset, .unset, .unset, .unset, .unset, .unset, .unset, .unset, .unset] [(.int ((((p6.toUInt64 >>> ((32 : Int32) &&& 0x3f).toInt64.toUInt64).toInt64).toInt32) &&& (2147483647 : Int32))), (.int (1 : Int32))])
    obtain ⟨_, _, ⟨T2, L2, k2, n2⟩, -, X2, ⟨Lc2, hQ2, l2, y2, z2⟩, st2⟩ := Jvm.LawKit.callS X0 hx (y := (⟨"java/lang/Math", "max", "(II)I"⟩ : MethodName)) hown (mvT hZ (hw _ (List.mem_of_getElem? (i := 1) rfl))) (mvT hZ (hw _ (List.mem_of_getElem? (i := 2) rfl))) (mvT hZ (hw _ (List.mem_of_getElem? (i := 3) rfl))) (mvT hZ (hw _ (List.mem_of_getElem? (i := 4) rfl))) (by decide) (backOf (W := 0) (rmMax l Z a0 hw [] (1 : Int32) ((((p6.toUInt64 >>> ((32 : Int32) &&& 0x3f).toInt64.toUInt64).toInt64).toInt32) &&& (2147483647 : Int32))  h0 n0 Z0 ) hZ (hw _ (List.mem_of_getElem? (i := 4) rfl)) (hw _ (List.mem_of_getElem? (i := 3) rfl)) (by decide) (by decide)) (g := (mkF m 51 #[iv p1, iv p2, .val (.long p3), .second, .val (.long p4), .second, iv p5, .val (.long p6), .second, iv b, iv w, .val (.long bm), .second, .val (.long mm), .second, .unset, .unset, .unset, .unset, .unset, .unset, .unset, .unset, .unset, .unset, .unset, .unset, .unset, .unset] [(.int ((((p6.toUInt64 >>> ((32 : Int32) &&& 0x3f).toInt64.toUInt64).toInt64).toInt32) &&& (2147483647 : Int32))), (.int (1 : Int32))])) rfl (by rw [hml]; rfl) (argsL := [(.int (1 : Int32)), (.int ((((p6.toUInt64 >>> ((32 : Int32) &&& 0x3f).toInt64.toUInt64).toInt64).toInt32) &&& (2147483647 : Int32)))]) (rest := []) (lenOf pd__28II_29I rfl) rfl (by show 2 * 0 + _ ≤ _; exact Nat.le_of_eq rfl) (hb hby at_51) (fun _ _ => ⟨rfl, e0, (by decide : 0 + 0 ≤ _), (by decide : 0 + 0 ≤ _)⟩)
    dsimp only [Pt.U, Pt.locs, Pt.cells, Pt.slots] at X2 l2 y2 z2 st2 hQ2
    subst l2 y2 z2
    obtain ⟨rfl, N2q, e2⟩ := hQ2
    have N2 := Fr.app N0 N2q
    refine Goes.step ?_ st2
    show Goes p e below _ (sF T2 m 54 #[iv p1, iv p2, .val (.long p3), .second, .val (.long p4), .second, iv p5, .val (.long p6), .second, iv b, iv w, .val (.long bm), .second, .val (.long mm), .second, .unset, .unset, .unset, .unset, .unset, .unset, .unset, .unset, .unset, .unset, .unset, .unset, .unset, .unset] [(.int (maxV (1 : Int32) ((((p6.toUInt64 >>> ((32 : Int32) &&& 0x3f).toInt64.toUInt64).toInt64).toInt32) &&& (2147483647 : Int32))))])
    refine Goes.step ?_ (fun _ k => XS.goto X2.here hx rfl (pc0 := 54) (pc' := 59) rfl (hb hby at_54) (by decide) (by decide) k)
    show Goes p e below _ (sF T2 m 59 #[iv p1, iv p2, .val (.long p3), .second, .val (.long p4), .second, iv p5, .val (.long p6), .second, iv b, iv w, .val (.long bm), .second, .val (.long mm), .second, .unset, .unset, .unset, .unset, .unset, .unset, .unset, .unset, .unset, .unset, .unset, .unset, .unset, .unset] [(.int (maxV (1 : Int32) ((((p6.toUInt64 >>> ((32 : Int32) &&& 0x3f).toInt64.toUInt64).toInt64).toInt32) &&& (2147483647 : Int32))))])
    refine Goes.step ?_ (fun _ k => XS.istore X2.here hx rfl (hb hby at_59) rfl (l' := #[iv p1, iv p2, .val (.long p3), .second, .val (.long p4), .second, iv p5, .val (.long p6), .second, iv b, iv w, .val (.long bm), .second, .val (.long mm), .second, iv (maxV (1 : Int32) ((((p6.toUInt64 >>> ((32 : Int32) &&& 0x3f).toInt64.toUInt64).toInt64).toInt32) &&& (2147483647 : Int32))), .unset, .unset, .unset, .unset, .unset, .unset, .unset, .unset, .unset, .unset, .unset, .unset, .unset]) rfl k)
    show Goes p e below _ (sF T2 m 61 #[iv p1, iv p2, .val (.long p3), .second, .val (.long p4), .second, iv p5, .val (.long p6), .second, iv b, iv w, .val (.long bm), .second, .val (.long mm), .second, iv (maxV (1 : Int32) ((((p6.toUInt64 >>> ((32 : Int32) &&& 0x3f).toInt64.toUInt64).toInt64).toInt32) &&& (2147483647 : Int32))), .unset, .unset, .unset, .unset, .unset, .unset, .unset, .unset, .unset, .unset, .unset, .unset, .unset] [])
    exact tail61 p1 p2 p3 p4 p5 p6 w b bm mm (maxV (1 : Int32) ((((p6.toUInt64 >>> ((32 : Int32) &&& 0x3f).toInt64.toUInt64).toInt64).toInt32) &&& (2147483647 : Int32))) cc cl X2 hx hZ hw hby hlk hret hml hown e2 N2 Z0 hS hk O0 S_high S_cache Ar_cc Sz_cc Hel hb_b hw_w hle_w (own_max _) c1_bm c2_bm c1_mm c2_mm
theorem ef_rm0 (m : MethodId) (x0 : Int32) (x1 : Int32) (x2 : Int64) (x3 : Int64) (x4 : Int32) (x5 : Int64) : entryFrame m #[(.int x0), (.int x1), (.long x2), (.long x3), (.int x4), (.long x5)] maxLocals = mkF m 0 #[iv x0, iv x1, .val (.long x2), .second, .val (.long x3), .second, iv x4, .val (.long x5), .second, .unset, .unset, .unset, .unset, .unset, .unset, .unset, .unset, .unset, .unset, .unset, .unset, .unset, .unset, .unset, .unset, .unset, .unset, .unset, .unset] [] := by first | (simp [entryFrame, mkF, argsToLocals, Value.category, maxLocals]; done) | rfl
set_option maxRecDepth 65536 in
set_option maxHeartbeats 40000000 in
theorem rm0 (l : Launch) (Z : State) (a0 : Array Value) (hw : ∀ d ∈ tables_1, d.before a0 Z = true) (ws : List Jvm.Cond) (p1 : Int32) (p2 : Int32) (p3 : Int64) (p4 : Int64) (p5 : Int32) (p6 : Int64) (cc : Addr) (cl : Cell) (h0 : Heap) (n0 : Nat) (Z0 : n0 ≤ h0.size) (O0 : Old Z n0 h0) (S_high : Sta Z Z.heap "java/lang/Integer$IntegerCache" "high" "I" (.int (127 : Int32))) (S_cache : Sta Z Z.heap "java/lang/Integer$IntegerCache" "cache" "[Ljava/lang/Integer;" (.ref cc)) (Ar_cc : Arr Z Z.heap cc cl (.object "java/lang/Integer")) (Sz_cc : cl.slots.size = 256) (Hel : ∀ i, i < 256 → ∃ x, cl.slots[i]? = some (.ref x) ∧ Exa Z Z.heap x "java/lang/Integer") :
    MetFree l x (head1 (Jvm.Cond.code x code maxLocals ret :: ws) room_1) (fun a U => a = #[(.int p1), (.int p2), (.long p3), (.long p4), (.int p5), (.long p6)] ∧ Z.Warmed39 U.vm ∧ U.heap = h0) (fun _ _ _ _ _ => True) (fun _ U o U' => ∃ v L, o = .returned v ∧ Q0 n0 v U'.heap L ∧ ReturnedEndW U o U' L room_1.cells room_1.slots) := by
  refine MetFree.of_bodySF (plainFor_of_name pn_com_example_velvet_rope_velvetrope_PenaltyPolicyEqualsPinLaw) hisR ?_
  intro p e s m args below meth c s₁ Bd hml0 hP hK
  obtain ⟨rfl, hZ, hh⟩ := hP
  have hx := Bd.exec
  have hby := Bd.bytes
  have hlk : meth.locks = false := BodyLoose.notSynchronized Bd
  have hml : c.maxLocals = 29 := hml0
  have hown : s.vm.findClass "com/example/velvet_rope/velvetrope/PenaltyPolicyEqualsPinLaw" = some m.cls := findClass_of_methodNamed Bd.named
  have hnm := (name_of_methodNamed Bd.named Bd.method).1
  have X0 : Stand p l e room_1 s m #[(.int p1), (.int p2), (.long p3), (.long p4), (.int p5), (.long p6)] below meth c s₁ [] 0 0 := Stand.of_body Bd
  have e0 : s₁.heap = h0 := by rw [← hh, Bd.state]; rfl
  have N0 := Fr.nil n0
  have hret := Bd.returns
  show Goes p e below (fun o U' => ∃ v L, o = .returned v ∧ Q0 n0 v U'.heap L ∧ ReturnedEndW s o U' L room_1.cells room_1.slots) (s₁.setTop (entryFrame m #[(.int p1), (.int p2), (.long p3), (.long p4), (.int p5), (.long p6)] maxLocals))
  refine Goes.step ?_ (fun _ k => castTop (ef_rm0 m p1 p2 p3 p4 p5 p6) k)
  have hS : s.Since s.vm 0 := (State.WarmedH.refl s).since 0
  have hk : 0 ≤ h0.size := Nat.zero_le _
  have X0 : Stand p l e room_1 (s.setVm s.vm) m #[(.int p1), (.int p2), (.long p3), (.long p4), (.int p5), (.long p6)] below meth c s₁ [] 0 0 := X0
  have hZ : Z.Warmed39 (s.setVm s.vm).vm := hZ
  have hown : (s.setVm s.vm).vm.findClass "com/example/velvet_rope/velvetrope/PenaltyPolicyEqualsPinLaw" = some m.cls := hown
  show Goes p e below _ (sF s₁ m 0 #[iv p1, iv p2, .val (.long p3), .second, .val (.long p4), .second, iv p5, .val (.long p6), .second, .unset, .unset, .unset, .unset, .unset, .unset, .unset, .unset, .unset, .unset, .unset, .unset, .unset, .unset, .unset, .unset, .unset, .unset, .unset, .unset] [])
  refine Goes.step ?_ (fun _ k => XS.iconst X0.here hx rfl (hb hby at_0) k)
  show Goes p e below _ (sF s₁ m 1 #[iv p1, iv p2, .val (.long p3), .second, .val (.long p4), .second, iv p5, .val (.long p6), .second, .unset, .unset, .unset, .unset, .unset, .unset, .unset, .unset, .unset, .unset, .unset, .unset, .unset, .unset, .unset, .unset, .unset, .unset, .unset, .unset] [(.int (1 : Int32))])
  refine Goes.step ?_ (fun _ k => XS.iloadN X0.here hx rfl (hb hby at_1) rfl  k)
  show Goes p e below _ (sF s₁ m 2 #[iv p1, iv p2, .val (.long p3), .second, .val (.long p4), .second, iv p5, .val (.long p6), .second, .unset, .unset, .unset, .unset, .unset, .unset, .unset, .unset, .unset, .unset, .unset, .unset, .unset, .unset, .unset, .unset, .unset, .unset, .unset, .unset] [(.int p2), (.int (1 : Int32))])
  refine Goes.step ?_ (fun _ k => X0.ldcI hx hown (mvT hZ (hw _ (List.mem_of_getElem? (i := 0) rfl))) rfl (hb hby at_2) k)
  show Goes p e below _ (sF s₁ m 4 #[iv p1, iv p2, .val (.long p3), .second, .val (.long p4), .second, iv p5, .val (.long p6), .second, .unset, .unset, .unset, .unset, .unset, .unset, .unset, .unset, .unset, .unset, .unset, .unset, .unset, .unset, .unset, .unset, .unset, .unset, .unset, .unset] [(.int (2147483647 : Int32)), (.int p2), (.int (1 : Int32))])
  refine Goes.step ?_ (fun _ k => XS.iand X0.here hx rfl (hb hby at_4) rfl k)
  show Goes p e below _ (sF s₁ m 5 #[iv p1, iv p2, .val (.long p3), .second, .val (.long p4), .second, iv p5, .val (.long p6), .second, .unset, .unset, .unset, .unset, .unset, .unset, .unset, .unset, .unset, .unset, .unset, .unset, .unset, .unset, .unset, .unset, .unset, .unset, .unset, .unset] [(.int (p2 &&& (2147483647 : Int32))), (.int (1 : Int32))])
  obtain ⟨_, _, ⟨T1, L1, k1, n1⟩, -, X1, ⟨Lc1, hQ1, l1, y1, z1⟩, st1⟩ := Jvm.LawKit.callS X0 hx (y := (⟨"java/lang/Math", "max", "(II)I"⟩ : MethodName)) hown (mvT hZ (hw _ (List.mem_of_getElem? (i := 1) rfl))) (mvT hZ (hw _ (List.mem_of_getElem? (i := 2) rfl))) (mvT hZ (hw _ (List.mem_of_getElem? (i := 3) rfl))) (mvT hZ (hw _ (List.mem_of_getElem? (i := 4) rfl))) (by decide) (backOf (W := 0) (rmMax l Z a0 hw [] (1 : Int32) (p2 &&& (2147483647 : Int32))  h0 n0 Z0 ) hZ (hw _ (List.mem_of_getElem? (i := 4) rfl)) (hw _ (List.mem_of_getElem? (i := 3) rfl)) (by decide) (by decide)) (g := (mkF m 5 #[iv p1, iv p2, .val (.long p3), .second, .val (.long p4), .second, iv p5, .val (.long p6), .second, .unset, .unset, .unset, .unset, .unset, .unset, .unset, .unset, .unset, .unset, .unset, .unset, .unset, .unset, .unset, .unset, .unset, .unset, .unset, .unset] [(.int (p2 &&& (2147483647 : Int32))), (.int (1 : Int32))])) rfl (by rw [hml]; rfl) (argsL := [(.int (1 : Int32)), (.int (p2 &&& (2147483647 : Int32)))]) (rest := []) (lenOf pd__28II_29I rfl) rfl (by show 2 * 0 + _ ≤ _; exact Nat.le_of_eq rfl) (hb hby at_5) (fun _ _ => ⟨rfl, e0, (by decide : 0 + 0 ≤ _), (by decide : 0 + 0 ≤ _)⟩)
  dsimp only [Pt.U, Pt.locs, Pt.cells, Pt.slots] at X1 l1 y1 z1 st1 hQ1
  subst l1 y1 z1
  obtain ⟨rfl, N1q, e1⟩ := hQ1
  have N1 := Fr.app N0 N1q
  refine Goes.step ?_ st1
  show Goes p e below _ (sF T1 m 8 #[iv p1, iv p2, .val (.long p3), .second, .val (.long p4), .second, iv p5, .val (.long p6), .second, .unset, .unset, .unset, .unset, .unset, .unset, .unset, .unset, .unset, .unset, .unset, .unset, .unset, .unset, .unset, .unset, .unset, .unset, .unset, .unset] [(.int (maxV (1 : Int32) (p2 &&& (2147483647 : Int32))))])
  refine Goes.step ?_ (fun _ k => XS.istore X1.here hx rfl (hb hby at_8) rfl (l' := #[iv p1, iv p2, .val (.long p3), .second, .val (.long p4), .second, iv p5, .val (.long p6), .second, iv (maxV (1 : Int32) (p2 &&& (2147483647 : Int32))), .unset, .unset, .unset, .unset, .unset, .unset, .unset, .unset, .unset, .unset, .unset, .unset, .unset, .unset, .unset, .unset, .unset, .unset, .unset]) rfl k)
  show Goes p e below _ (sF T1 m 10 #[iv p1, iv p2, .val (.long p3), .second, .val (.long p4), .second, iv p5, .val (.long p6), .second, iv (maxV (1 : Int32) (p2 &&& (2147483647 : Int32))), .unset, .unset, .unset, .unset, .unset, .unset, .unset, .unset, .unset, .unset, .unset, .unset, .unset, .unset, .unset, .unset, .unset, .unset, .unset] [])
  refine Goes.step ?_ (fun _ k => XS.iconst X1.here hx rfl (hb hby at_10) k)
  show Goes p e below _ (sF T1 m 11 #[iv p1, iv p2, .val (.long p3), .second, .val (.long p4), .second, iv p5, .val (.long p6), .second, iv (maxV (1 : Int32) (p2 &&& (2147483647 : Int32))), .unset, .unset, .unset, .unset, .unset, .unset, .unset, .unset, .unset, .unset, .unset, .unset, .unset, .unset, .unset, .unset, .unset, .unset, .unset] [(.int (1 : Int32))])
  refine Goes.step ?_ (fun _ k => XS.iloadN X1.here hx rfl (hb hby at_11) rfl  k)
  show Goes p e below _ (sF T1 m 12 #[iv p1, iv p2, .val (.long p3), .second, .val (.long p4), .second, iv p5, .val (.long p6), .second, iv (maxV (1 : Int32) (p2 &&& (2147483647 : Int32))), .unset, .unset, .unset, .unset, .unset, .unset, .unset, .unset, .unset, .unset, .unset, .unset, .unset, .unset, .unset, .unset, .unset, .unset, .unset] [(.int p1), (.int (1 : Int32))])
  refine Goes.step ?_ (fun _ k => X1.ldcI hx hown (mvT hZ (hw _ (List.mem_of_getElem? (i := 0) rfl))) rfl (hb hby at_12) k)
  show Goes p e below _ (sF T1 m 14 #[iv p1, iv p2, .val (.long p3), .second, .val (.long p4), .second, iv p5, .val (.long p6), .second, iv (maxV (1 : Int32) (p2 &&& (2147483647 : Int32))), .unset, .unset, .unset, .unset, .unset, .unset, .unset, .unset, .unset, .unset, .unset, .unset, .unset, .unset, .unset, .unset, .unset, .unset, .unset] [(.int (2147483647 : Int32)), (.int p1), (.int (1 : Int32))])
  refine Goes.step ?_ (fun _ k => XS.iand X1.here hx rfl (hb hby at_14) rfl k)
  show Goes p e below _ (sF T1 m 15 #[iv p1, iv p2, .val (.long p3), .second, .val (.long p4), .second, iv p5, .val (.long p6), .second, iv (maxV (1 : Int32) (p2 &&& (2147483647 : Int32))), .unset, .unset, .unset, .unset, .unset, .unset, .unset, .unset, .unset, .unset, .unset, .unset, .unset, .unset, .unset, .unset, .unset, .unset, .unset] [(.int (p1 &&& (2147483647 : Int32))), (.int (1 : Int32))])
  refine Goes.step ?_ (fun _ k => XS.iload X1.here hx rfl (hb hby at_15) rfl  k)
  show Goes p e below _ (sF T1 m 17 #[iv p1, iv p2, .val (.long p3), .second, .val (.long p4), .second, iv p5, .val (.long p6), .second, iv (maxV (1 : Int32) (p2 &&& (2147483647 : Int32))), .unset, .unset, .unset, .unset, .unset, .unset, .unset, .unset, .unset, .unset, .unset, .unset, .unset, .unset, .unset, .unset, .unset, .unset, .unset] [(.int (maxV (1 : Int32) (p2 &&& (2147483647 : Int32)))), (.int (p1 &&& (2147483647 : Int32))), (.int (1 : Int32))])
  refine Goes.step ?_ (fun _ k => iremM X1 hx rfl (hb hby at_17) rfl (own_nz _ (own_max _)) k)
  show Goes p e below _ (sF T1 m 18 #[iv p1, iv p2, .val (.long p3), .second, .val (.long p4), .second, iv p5, .val (.long p6), .second, iv (maxV (1 : Int32) (p2 &&& (2147483647 : Int32))), .unset, .unset, .unset, .unset, .unset, .unset, .unset, .unset, .unset, .unset, .unset, .unset, .unset, .unset, .unset, .unset, .unset, .unset, .unset] [(.int ((p1 &&& (2147483647 : Int32)) % (maxV (1 : Int32) (p2 &&& (2147483647 : Int32))))), (.int (1 : Int32))])
  refine Goes.step ?_ (fun _ k => XS.iadd X1.here hx rfl (hb hby at_18) rfl k)
  show Goes p e below _ (sF T1 m 19 #[iv p1, iv p2, .val (.long p3), .second, .val (.long p4), .second, iv p5, .val (.long p6), .second, iv (maxV (1 : Int32) (p2 &&& (2147483647 : Int32))), .unset, .unset, .unset, .unset, .unset, .unset, .unset, .unset, .unset, .unset, .unset, .unset, .unset, .unset, .unset, .unset, .unset, .unset, .unset] [(.int ((1 : Int32) + ((p1 &&& (2147483647 : Int32)) % (maxV (1 : Int32) (p2 &&& (2147483647 : Int32))))))])
  refine Goes.step ?_ (fun _ k => XS.istore X1.here hx rfl (hb hby at_19) rfl (l' := #[iv p1, iv p2, .val (.long p3), .second, .val (.long p4), .second, iv p5, .val (.long p6), .second, iv (maxV (1 : Int32) (p2 &&& (2147483647 : Int32))), iv ((1 : Int32) + ((p1 &&& (2147483647 : Int32)) % (maxV (1 : Int32) (p2 &&& (2147483647 : Int32))))), .unset, .unset, .unset, .unset, .unset, .unset, .unset, .unset, .unset, .unset, .unset, .unset, .unset, .unset, .unset, .unset, .unset, .unset]) rfl k)
  show Goes p e below _ (sF T1 m 21 #[iv p1, iv p2, .val (.long p3), .second, .val (.long p4), .second, iv p5, .val (.long p6), .second, iv (maxV (1 : Int32) (p2 &&& (2147483647 : Int32))), iv ((1 : Int32) + ((p1 &&& (2147483647 : Int32)) % (maxV (1 : Int32) (p2 &&& (2147483647 : Int32))))), .unset, .unset, .unset, .unset, .unset, .unset, .unset, .unset, .unset, .unset, .unset, .unset, .unset, .unset, .unset, .unset, .unset, .unset] [])
  refine Goes.step ?_ (fun _ k => XS.lloadN X1.here hx rfl (hb hby at_21) rfl  k)
  show Goes p e below _ (sF T1 m 22 #[iv p1, iv p2, .val (.long p3), .second, .val (.long p4), .second, iv p5, .val (.long p6), .second, iv (maxV (1 : Int32) (p2 &&& (2147483647 : Int32))), iv ((1 : Int32) + ((p1 &&& (2147483647 : Int32)) % (maxV (1 : Int32) (p2 &&& (2147483647 : Int32))))), .unset, .unset, .unset, .unset, .unset, .unset, .unset, .unset, .unset, .unset, .unset, .unset, .unset, .unset, .unset, .unset, .unset, .unset] [(.long p3)])
  obtain ⟨_, _, ⟨T2, L2, k2, n2⟩, -, X2, ⟨Lc2, hQ2, l2, y2, z2⟩, st2⟩ := Jvm.LawKit.callS X1 hx (y := (⟨"com/example/velvet_rope/velvetrope/PenaltyPolicyEqualsPinLaw", "millis", "(J)J"⟩ : MethodName)) hown (mvT hZ (hw _ (List.mem_of_getElem? (i := 5) rfl))) (mvT hZ (hw _ (List.mem_of_getElem? (i := 6) rfl))) (mvT hZ (hw _ (List.mem_of_getElem? (i := 7) rfl))) (mvT hZ (hw _ (List.mem_of_getElem? (i := 8) rfl))) (by decide) (backOf (W := 0) (rmMil l Z a0 hw [] p3  h0 n0 Z0 ) hZ (hw _ (List.mem_of_getElem? (i := 8) rfl)) (hw _ (List.mem_of_getElem? (i := 7) rfl)) (by decide) (by decide)) (g := (mkF m 22 #[iv p1, iv p2, .val (.long p3), .second, .val (.long p4), .second, iv p5, .val (.long p6), .second, iv (maxV (1 : Int32) (p2 &&& (2147483647 : Int32))), iv ((1 : Int32) + ((p1 &&& (2147483647 : Int32)) % (maxV (1 : Int32) (p2 &&& (2147483647 : Int32))))), .unset, .unset, .unset, .unset, .unset, .unset, .unset, .unset, .unset, .unset, .unset, .unset, .unset, .unset, .unset, .unset, .unset, .unset] [(.long p3)])) rfl (by rw [hml]; rfl) (argsL := [(.long p3)]) (rest := []) (lenOf pd__28J_29J rfl) rfl (by show 2 * 0 + _ ≤ _; exact Nat.le_of_eq rfl) (hb hby at_22) (fun _ _ => ⟨rfl, e1, (by decide : 0 + 0 ≤ _), (by decide : 0 + 0 ≤ _)⟩)
  dsimp only [Pt.U, Pt.locs, Pt.cells, Pt.slots] at X2 l2 y2 z2 st2 hQ2
  subst l2 y2 z2
  obtain ⟨rfl, N2q, e2⟩ := hQ2
  have N2 := Fr.app N1 N2q
  refine Goes.step ?_ st2
  show Goes p e below _ (sF T2 m 25 #[iv p1, iv p2, .val (.long p3), .second, .val (.long p4), .second, iv p5, .val (.long p6), .second, iv (maxV (1 : Int32) (p2 &&& (2147483647 : Int32))), iv ((1 : Int32) + ((p1 &&& (2147483647 : Int32)) % (maxV (1 : Int32) (p2 &&& (2147483647 : Int32))))), .unset, .unset, .unset, .unset, .unset, .unset, .unset, .unset, .unset, .unset, .unset, .unset, .unset, .unset, .unset, .unset, .unset, .unset] [(.long (milV p3))])
  refine Goes.step ?_ (fun _ k => XS.lstore X2.here hx rfl (hb hby at_25) rfl (l' := #[iv p1, iv p2, .val (.long p3), .second, .val (.long p4), .second, iv p5, .val (.long p6), .second, iv (maxV (1 : Int32) (p2 &&& (2147483647 : Int32))), iv ((1 : Int32) + ((p1 &&& (2147483647 : Int32)) % (maxV (1 : Int32) (p2 &&& (2147483647 : Int32))))), .val (.long (milV p3)), .second, .unset, .unset, .unset, .unset, .unset, .unset, .unset, .unset, .unset, .unset, .unset, .unset, .unset, .unset, .unset, .unset]) rfl k)
  show Goes p e below _ (sF T2 m 27 #[iv p1, iv p2, .val (.long p3), .second, .val (.long p4), .second, iv p5, .val (.long p6), .second, iv (maxV (1 : Int32) (p2 &&& (2147483647 : Int32))), iv ((1 : Int32) + ((p1 &&& (2147483647 : Int32)) % (maxV (1 : Int32) (p2 &&& (2147483647 : Int32))))), .val (.long (milV p3)), .second, .unset, .unset, .unset, .unset, .unset, .unset, .unset, .unset, .unset, .unset, .unset, .unset, .unset, .unset, .unset, .unset] [])
  refine Goes.step ?_ (fun _ k => XS.lload X2.here hx rfl (hb hby at_27) rfl  k)
  show Goes p e below _ (sF T2 m 29 #[iv p1, iv p2, .val (.long p3), .second, .val (.long p4), .second, iv p5, .val (.long p6), .second, iv (maxV (1 : Int32) (p2 &&& (2147483647 : Int32))), iv ((1 : Int32) + ((p1 &&& (2147483647 : Int32)) % (maxV (1 : Int32) (p2 &&& (2147483647 : Int32))))), .val (.long (milV p3)), .second, .unset, .unset, .unset, .unset, .unset, .unset, .unset, .unset, .unset, .unset, .unset, .unset, .unset, .unset, .unset, .unset] [(.long p4)])
  obtain ⟨_, _, ⟨T3, L3, k3, n3⟩, -, X3, ⟨Lc3, hQ3, l3, y3, z3⟩, st3⟩ := Jvm.LawKit.callS X2 hx (y := (⟨"com/example/velvet_rope/velvetrope/PenaltyPolicyEqualsPinLaw", "millis", "(J)J"⟩ : MethodName)) hown (mvT hZ (hw _ (List.mem_of_getElem? (i := 5) rfl))) (mvT hZ (hw _ (List.mem_of_getElem? (i := 6) rfl))) (mvT hZ (hw _ (List.mem_of_getElem? (i := 7) rfl))) (mvT hZ (hw _ (List.mem_of_getElem? (i := 8) rfl))) (by decide) (backOf (W := 0) (rmMil l Z a0 hw [] p4  h0 n0 Z0 ) hZ (hw _ (List.mem_of_getElem? (i := 8) rfl)) (hw _ (List.mem_of_getElem? (i := 7) rfl)) (by decide) (by decide)) (g := (mkF m 29 #[iv p1, iv p2, .val (.long p3), .second, .val (.long p4), .second, iv p5, .val (.long p6), .second, iv (maxV (1 : Int32) (p2 &&& (2147483647 : Int32))), iv ((1 : Int32) + ((p1 &&& (2147483647 : Int32)) % (maxV (1 : Int32) (p2 &&& (2147483647 : Int32))))), .val (.long (milV p3)), .second, .unset, .unset, .unset, .unset, .unset, .unset, .unset, .unset, .unset, .unset, .unset, .unset, .unset, .unset, .unset, .unset] [(.long p4)])) rfl (by rw [hml]; rfl) (argsL := [(.long p4)]) (rest := []) (lenOf pd__28J_29J rfl) rfl (by show 2 * 0 + _ ≤ _; exact Nat.le_of_eq rfl) (hb hby at_29) (fun _ _ => ⟨rfl, e2, (by decide : 0 + 0 ≤ _), (by decide : 0 + 0 ≤ _)⟩)
  dsimp only [Pt.U, Pt.locs, Pt.cells, Pt.slots] at X3 l3 y3 z3 st3 hQ3
  subst l3 y3 z3
  obtain ⟨rfl, N3q, e3⟩ := hQ3
  have N3 := Fr.app N2 N3q
  refine Goes.step ?_ st3
  show Goes p e below _ (sF T3 m 32 #[iv p1, iv p2, .val (.long p3), .second, .val (.long p4), .second, iv p5, .val (.long p6), .second, iv (maxV (1 : Int32) (p2 &&& (2147483647 : Int32))), iv ((1 : Int32) + ((p1 &&& (2147483647 : Int32)) % (maxV (1 : Int32) (p2 &&& (2147483647 : Int32))))), .val (.long (milV p3)), .second, .unset, .unset, .unset, .unset, .unset, .unset, .unset, .unset, .unset, .unset, .unset, .unset, .unset, .unset, .unset, .unset] [(.long (milV p4))])
  refine Goes.step ?_ (fun _ k => XS.lstore X3.here hx rfl (hb hby at_32) rfl (l' := #[iv p1, iv p2, .val (.long p3), .second, .val (.long p4), .second, iv p5, .val (.long p6), .second, iv (maxV (1 : Int32) (p2 &&& (2147483647 : Int32))), iv ((1 : Int32) + ((p1 &&& (2147483647 : Int32)) % (maxV (1 : Int32) (p2 &&& (2147483647 : Int32))))), .val (.long (milV p3)), .second, .val (.long (milV p4)), .second, .unset, .unset, .unset, .unset, .unset, .unset, .unset, .unset, .unset, .unset, .unset, .unset, .unset, .unset]) rfl k)
  show Goes p e below _ (sF T3 m 34 #[iv p1, iv p2, .val (.long p3), .second, .val (.long p4), .second, iv p5, .val (.long p6), .second, iv (maxV (1 : Int32) (p2 &&& (2147483647 : Int32))), iv ((1 : Int32) + ((p1 &&& (2147483647 : Int32)) % (maxV (1 : Int32) (p2 &&& (2147483647 : Int32))))), .val (.long (milV p3)), .second, .val (.long (milV p4)), .second, .unset, .unset, .unset, .unset, .unset, .unset, .unset, .unset, .unset, .unset, .unset, .unset, .unset, .unset] [])
  exact tail34 p1 p2 p3 p4 p5 p6 ((1 : Int32) + ((p1 &&& (2147483647 : Int32)) % (maxV (1 : Int32) (p2 &&& (2147483647 : Int32))))) (maxV (1 : Int32) (p2 &&& (2147483647 : Int32))) (milV p3) (milV p4) cc cl X3 hx hZ hw hby hlk hret hml hown e3 N3 Z0 hS hk O0 S_high S_cache Ar_cc Sz_cc Hel (own_max _) (own_w _ _ (own_max _)).1 (own_w _ _ (own_max _)).2 (own_mil _).1 (own_mil _).2 (own_mil _).1 (own_mil _).2
set_option maxRecDepth 65536 in
set_option maxHeartbeats 40000000 in
theorem comes_1 {Post : Tables → Env → Array Value → State → Outcome → State → Prop} (hpost : ∀ tb e args s v u, (limb_1_1.after args s (.returned v) u = true ∧ limb_1_2.after args s (.returned v) u = true ∧ True) → ReturnedEndW s (.returned v) u (Jvm.fieldLocs frame_1_writes args s ++ Jvm.arrayLocs frame_1_arrays args s ++ Jvm.staticLocs frame_1_statics s) 24 2176 → Post tb e args s (.returned v) u) :
    ArmFor flags0 classFile x code maxLocals ret World_1 tables_1 room_1 Calls_1 rest_1 Pre_1 Post := by
  intro l hfl _ _ p e ha hc hk s m args below hf hA hF happ hP
  obtain ⟨hcalls, hrest, hpre⟩ := hP
  obtain ⟨-, -, -, hnamed, -, -, -, hat⟩ := (Spec.applies_iff hf).mp happ
  obtain ⟨hg, hn⟩ := and_e (Cond.before_iff.mp (show (Jvm.Cond.and given_1 narrow_1).before args s = true from hpre))
  obtain ⟨hcnt, g0⟩ := and_e hg
  obtain ⟨ga0, g1⟩ := and_e g0
  obtain ⟨ga1, g2⟩ := and_e g1
  obtain ⟨ga2, g3⟩ := and_e g2
  obtain ⟨ga3, g4⟩ := and_e g3
  obtain ⟨ga4, g5⟩ := and_e g4
  have ga5 := g5
  obtain ⟨w0, w1, w2, w3, w4, w5, rfl⟩ : ∃ w0 w1 w2 w3 w4 w5 : Value, args = #[w0, w1, w2, w3, w4, w5] := by
    have hs : args.size = 6 := by simpa [Cond.value, given_1] using hcnt
    obtain ⟨L⟩ := args
    match L, hs with
    | [w0, w1, w2, w3, w4, w5], _ => exact ⟨w0, w1, w2, w3, w4, w5, rfl⟩
  have hw := fun d (hd : d ∈ tables_1) => atoms_spec (ws := Jvm.Cond.code x code maxLocals ret :: tables_1) hat d (List.mem_cons_of_mem _ hd)
  have hfit : Fit s := fun {y c} hc i hi => by
    obtain ⟨ha, rfl⟩ := Array.getElem?_eq_some_iff.mp hc
    have q := List.all_eq_true.mp ((Array.all_eq_true_iff_forall_mem.mp hF) _ (Array.getElem_mem ha)) i (List.mem_range.mpr hi)
    simpa [Array.getElem?_eq_getElem hi] using q
  obtain ⟨hsets, hown0⟩ := atoms_of _ (rest_1_c_eq ▸ (show rest_1_c.before _ s = true from hrest))
  obtain ⟨i0, ei0⟩ := is_v ga0
  obtain rfl : w0 = (.int i0) := Option.some.inj ei0
  obtain ⟨i1, ei1⟩ := is_v ga1
  obtain rfl : w1 = (.int i1) := Option.some.inj ei1
  obtain ⟨i2, ei2⟩ := isL_v ga2
  obtain rfl : w2 = (.long i2) := Option.some.inj ei2
  obtain ⟨i3, ei3⟩ := isL_v ga3
  obtain rfl : w3 = (.long i3) := Option.some.inj ei3
  obtain ⟨i4, ei4⟩ := is_v ga4
  obtain rfl : w4 = (.int i4) := Option.some.inj ei4
  obtain ⟨i5, ei5⟩ := isL_v ga5
  obtain rfl : w5 = (.long i5) := Option.some.inj ei5
  have vhigh := own_eqI (Cond.before_iff.mp (hsets _ (List.mem_of_getElem? (i := 3) rfl)))
  have Shigh := Sta.start vhigh (Or.inl (hsets _ (List.mem_of_getElem? (i := 1) rfl)))
  obtain ⟨cc, vcache⟩ := arr_v (Cond.before_iff.mp (hsets _ (List.mem_of_getElem? (i := 4) rfl)))
  have Scache := Sta.start vcache (Or.inr ⟨(hw _ (List.mem_of_getElem? (i := 56) rfl)), (hsets _ (List.mem_of_getElem? (i := 2) rfl))⟩)
  obtain ⟨cl, Arc⟩ := Arr.start vcache (Cond.before_iff.mp (hsets _ (List.mem_of_getElem? (i := 4) rfl)))
  have harr : s.arrayAt? cc = some cl := Arr.fin (Vm.Alike.refl _) Arc
  have vlen := own_eqI (Cond.before_iff.mp (hsets _ (List.mem_of_getElem? (i := 6) rfl)))
  have Szc : cl.slots.size = 256 := own_len vcache harr vlen
  have Helc : ∀ i, i < 256 → ∃ x, cl.slots[i]? = some (.ref x) ∧ Exa s s.heap x "java/lang/Integer" := fun i hi => by
    obtain ⟨q1, -⟩ := and_e (Cond.all_elim vcache harr (Cond.before_iff.mp (hsets _ (List.mem_of_getElem? (i := 7) rfl))) i (by rw [Szc]; exact hi))
    exact own_elem vcache harr (by rw [Szc]; exact hi) (by rw [Szc]; decide) q1
  obtain ⟨n, o, h1, h2, h3, _, L, rfl, ⟨rfl, N⟩, hq⟩ := rm0 l s _ hw tables_1 i0 i1 i2 i3 i4 i5 cc cl s.heap s.heap.size (Nat.le_refl _) (Old.start s) Shigh Scache Arc Szc Helc p e ha hc hk s m _ below hf ((Spec.applies_iff_loose hf).mp happ).1 ⟨rfl, State.Warmed39.refl s, rfl⟩ trivial
  refine ⟨n, _, h1, h2, h3, hpost _ _ _ _ _ _ ⟨Cond.after_iff.mpr rfl, Cond.after_iff.mpr (eq_i res_at (Term.int_eval (1)) rfl), trivial⟩ ⟨hq.1, hq.2.1, hq.2.2.1, (hq.2.2.2.sift fun y hy => Or.inr (N y hy)).mono (by decide) (by decide)⟩⟩
theorem main_1_1 : Claimed_1_1 := comes_1 fun _ _ _ _ _ _ h hF => ⟨h.1, hF⟩
theorem main_1_2 : Claimed_1_2 := comes_1 fun _ _ _ _ _ _ h hF => ⟨h.2.1, hF⟩
end Jvm.Pilot.@@N@@
namespace Jvm.Pilot.@@N@@
open Jvm Jvm.ClassFile Sem Op Lib Jvm.Free Jvm.Stand Jvm.Pilot.@@N@@.Jvm.D
/-! MADE BY PROGRAM (witnessworld.py) out of the Statement's table words and the real class files: 19 classes; the members and pool entries that the words name. The judged class is class 1, her method 2. -/
namespace start1
open Jvm.ClassFile
def u (s : String) : CpInfo := .utf8 (stringToUtf16 s)
/-- a pool by its gaps: so many unusable entries, then the entry; so many at the end -/
def gap : Nat → List CpInfo → List CpInfo
  | 0, r => r
  | n + 1, r => .unusable :: gap n r
def poolList (es : List (Nat × CpInfo)) (last : Nat) : List CpInfo := es.foldr (fun e r => gap e.1 (e.2 :: r)) (gap last [])
def pool (es : List (Nat × CpInfo)) (last : Nat) : Array CpInfo := ⟨poolList es last⟩
def fileOf (pool : Array CpInfo) (this : Nat) (attrs : Array Attribute := #[]) (ms : Array MethodInfo := #[]) (fl : Nat := 33) (sup : Nat := 0) (ifs : Array Nat := #[]) (fds : Array FieldInfo := #[]) : ClassFile where
  minorVersion := 0
  majorVersion := 65
  constantPool := pool
  accessFlags := fl
  thisClass := this
  superClass := sup
  interfaces := ifs
  fields := fds
  methods := ms
  attributes := attrs
def plain (name : String) (sup : Option ClassId) : Class where
  name := name
  kind := .ordinary
  loader := none
  accessFlags := 33
  super := sup
  interfaces := #[]
  cf := none
  fields := #[]
  methods := #[]
  instanceTypes := #[]
  staticTypes := #[]
  resolved := #[]
  callSites := []
  init := .initialized
  statics := none
  mirror := none

def pool0 : Array CpInfo := pool [(5, u "<init>"), (0, u "()V"), (1, .class_ 10), (1, u "java/lang/Object")] 113

def k0c0 : Code := { maxStack := 0, maxLocals := 1, code := object_method_1_code, exceptionTable := #[], attributes := #[] }
def k0m0 : Method := { name := "<init>", desc := "()V", sig := { parameters := [], returnType := none }, accessFlags := 1, code := some k0c0 }
/-- java/lang/Object -/
def k0 : Class := { plain "java/lang/Object" none with
  accessFlags := 33
  interfaces := #[]
  cf := some (fileOf pool0 8 #[] #[{ accessFlags := 1, nameIndex := 5, descriptorIndex := 6, attributes := #[] }] 33 0 #[] #[])
  fields := #[]
  methods := #[k0m0]
  instanceTypes := #[]
  staticTypes := #[]
  resolved := Array.replicate 124 none
  statics := none }

def pool1 : Array CpInfo := pool [(2, .class_ 4), (1, u "java/lang/Object"), (0, u "<init>"), (0, u "()V"), (2, .long 9223372036854775807), (1, .class_ 12), (0, u "com/example/velvet_rope/velvetrope/PenaltyPolicy"), (0, .long 2592000000), (1, .integer 2147483647), (0, .methodref 17 18), (0, .class_ 19), (0, .nameAndType 20 21), (0, u "java/lang/Math"), (0, u "max"), (0, u "(II)I"), (0, .methodref 23 24), (0, .class_ 25), (0, .nameAndType 26 27), (0, u "com/example/velvet_rope/velvetrope/PenaltyPolicyEqualsPinLaw"), (0, u "millis"), (0, u "(J)J"), (0, .methodref 17 29), (0, .nameAndType 30 21), (0, u "min"), (0, .methodref 11 32), (0, .nameAndType 5 33), (0, u "(IIJJ)V"), (0, .methodref 11 35), (0, .nameAndType 36 37), (0, u "equals"), (0, u "(Ljava/lang/Object;)Z"), (0, .methodref 39 40), (0, .class_ 41), (0, .nameAndType 42 43), (0, u "java/lang/Integer"), (0, u "valueOf"), (0, u "(I)Ljava/lang/Integer;"), (2, u "law"), (0, u "(IIJJIJ)Z")] 3

def k1m0 : Method := { name := "<init>", desc := "()V", sig := { parameters := [], returnType := none }, accessFlags := 1, code := none }
def k1c1 : Code := { maxStack := 4, maxLocals := 2, code := method_2_code, exceptionTable := #[], attributes := #[] }
def k1m1 : Method := { name := "millis", desc := "(J)J", sig := { parameters := [.long], returnType := some .long }, accessFlags := 10, code := some k1c1 }
def k1c2 : Code := { maxStack := 8, maxLocals := 29, code := code, exceptionTable := #[], attributes := #[] }
def k1m2 : Method := { name := "law", desc := "(IIJJIJ)Z", sig := { parameters := [.int, .int, .long, .long, .int, .long], returnType := some .boolean }, accessFlags := 9, code := some k1c2 }
/-- com/example/velvet_rope/velvetrope/PenaltyPolicyEqualsPinLaw -/
def k1 : Class := { plain "com/example/velvet_rope/velvetrope/PenaltyPolicyEqualsPinLaw" (some 0) with
  accessFlags := 49
  interfaces := #[]
  cf := some (fileOf pool1 23 #[] #[{ accessFlags := 1, nameIndex := 5, descriptorIndex := 6, attributes := #[] }, { accessFlags := 10, nameIndex := 26, descriptorIndex := 27, attributes := #[] }, { accessFlags := 9, nameIndex := 46, descriptorIndex := 47, attributes := #[] }] 49 2 #[] #[])
  fields := #[]
  methods := #[k1m0, k1m1, k1m2]
  instanceTypes := #[]
  staticTypes := #[]
  resolved := Array.replicate 51 none
  statics := none }

def pool2 : Array CpInfo := pool [(1, .class_ 2), (0, u "java/lang/Math"), (1, .class_ 6), (1, u "java/lang/Object"), (0, u "<init>"), (0, u "()V"), (89, .class_ 100), (1, u "java/lang/Math$RandomNumberGeneratorHolder"), (71, u "negativeZeroFloatBits"), (0, u "J"), (2, u "negativeZeroDoubleBits"), (21, u "max"), (2, u "min"), (43, u "$assertionsDisabled"), (0, u "Z"), (88, u "(II)I"), (2, u "twoToTheDoubleScaleDown"), (0, u "D"), (4, u "twoToTheDoubleScaleUp"), (9, u "E"), (3, u "PI"), (2, u "TAU"), (2, u "DEGREES_TO_RADIANS"), (0, u "RADIANS_TO_DEGREES")] 94

def k2m0 : Method := { name := "<init>", desc := "()V", sig := { parameters := [], returnType := none }, accessFlags := 2, code := none }
def k2c1 : Code := { maxStack := 2, maxLocals := 2, code := jdk_29_method_65_code, exceptionTable := #[], attributes := #[] }
def k2m1 : Method := { name := "max", desc := "(II)I", sig := { parameters := [.int, .int], returnType := some .int }, accessFlags := 9, code := some k2c1 }
def k2c2 : Code := { maxStack := 2, maxLocals := 2, code := jdk_29_method_69_code, exceptionTable := #[], attributes := #[] }
def k2m2 : Method := { name := "min", desc := "(II)I", sig := { parameters := [.int, .int], returnType := some .int }, accessFlags := 9, code := some k2c2 }
/-- java/lang/Math -/
def k2 : Class := { plain "java/lang/Math" (some 0) with
  accessFlags := 49
  interfaces := #[]
  cf := some (fileOf pool2 1 #[.nestMembers #[98]] #[{ accessFlags := 2, nameIndex := 7, descriptorIndex := 8, attributes := #[] }, { accessFlags := 9, nameIndex := 198, descriptorIndex := 335, attributes := #[] }, { accessFlags := 9, nameIndex := 201, descriptorIndex := 335, attributes := #[] }] 49 4 #[] #[{ accessFlags := 25, nameIndex := 354, descriptorIndex := 339, attributes := #[] }, { accessFlags := 25, nameIndex := 358, descriptorIndex := 339, attributes := #[] }, { accessFlags := 25, nameIndex := 361, descriptorIndex := 339, attributes := #[] }, { accessFlags := 26, nameIndex := 364, descriptorIndex := 339, attributes := #[] }, { accessFlags := 26, nameIndex := 365, descriptorIndex := 339, attributes := #[] }, { accessFlags := 26, nameIndex := 172, descriptorIndex := 173, attributes := #[] }, { accessFlags := 26, nameIndex := 176, descriptorIndex := 173, attributes := #[] }, { accessFlags := 8, nameIndex := 344, descriptorIndex := 339, attributes := #[] }, { accessFlags := 8, nameIndex := 338, descriptorIndex := 339, attributes := #[] }, { accessFlags := 4120, nameIndex := 245, descriptorIndex := 246, attributes := #[] }])
  fields := #[{ name := "E", type := .double, accessFlags := 25, slot := 0, constantValue := 0 }, { name := "PI", type := .double, accessFlags := 25, slot := 1, constantValue := 0 }, { name := "TAU", type := .double, accessFlags := 25, slot := 2, constantValue := 0 }, { name := "DEGREES_TO_RADIANS", type := .double, accessFlags := 26, slot := 3, constantValue := 0 }, { name := "RADIANS_TO_DEGREES", type := .double, accessFlags := 26, slot := 4, constantValue := 0 }, { name := "negativeZeroFloatBits", type := .long, accessFlags := 26, slot := 5, constantValue := 0 }, { name := "negativeZeroDoubleBits", type := .long, accessFlags := 26, slot := 6, constantValue := 0 }, { name := "twoToTheDoubleScaleUp", type := .double, accessFlags := 8, slot := 7, constantValue := 0 }, { name := "twoToTheDoubleScaleDown", type := .double, accessFlags := 8, slot := 8, constantValue := 0 }, { name := "$assertionsDisabled", type := .boolean, accessFlags := 4120, slot := 9, constantValue := 0 }]
  methods := #[k2m0, k2m1, k2m2]
  instanceTypes := #[]
  staticTypes := #[.double, .double, .double, .double, .double, .long, .long, .double, .double, .boolean]
  resolved := Array.replicate 460 none
  statics := none }

def pool3 : Array CpInfo := pool [(1, .methodref 2 3), (0, .class_ 4), (0, .nameAndType 5 6), (0, u "java/lang/Object"), (0, u "<init>"), (0, u "()V"), (12, .string 20), (0, u "ban"), (0, .methodref 22 23), (0, .class_ 24), (0, .nameAndType 25 26), (0, u "com/example/velvet_rope/velvetrope/PenaltyPolicy"), (0, u "checkMillis"), (0, u "(Ljava/lang/String;J)V"), (0, .string 28), (0, u "memory"), (0, .fieldref 22 30), (0, .nameAndType 31 32), (0, u "warnAt"), (0, u "I"), (0, .fieldref 22 34), (0, .nameAndType 35 32), (0, u "banAt"), (0, .fieldref 22 37), (0, .nameAndType 38 39), (0, u "banMillis"), (0, u "J"), (0, .fieldref 22 41), (0, .nameAndType 42 39), (0, u "memoryMillis"), (0, .long 2592000000), (19, u "(IIJJ)V"), (2, u "DEFAULT"), (0, u "Lcom/example/velvet_rope/velvetrope/PenaltyPolicy;"), (0, u "MAX_MILLIS"), (10, u "equals"), (0, u "(Ljava/lang/Object;)Z")] 26

def k3c0 : Code := { maxStack := 4, maxLocals := 7, code := prog_12_method_1_code, exceptionTable := #[], attributes := #[] }
def k3m0 : Method := { name := "<init>", desc := "(IIJJ)V", sig := { parameters := [.int, .int, .long, .long], returnType := none }, accessFlags := 1, code := some k3c0 }
def k3c1 : Code := { maxStack := 5, maxLocals := 3, code := prog_12_method_2_code, exceptionTable := #[], attributes := #[] }
def k3m1 : Method := { name := "checkMillis", desc := "(Ljava/lang/String;J)V", sig := { parameters := [(.object "java/lang/String"), .long], returnType := none }, accessFlags := 10, code := some k3c1 }
def k3c2 : Code := { maxStack := 4, maxLocals := 3, code := prog_12_method_7_code, exceptionTable := #[], attributes := #[] }
def k3m2 : Method := { name := "equals", desc := "(Ljava/lang/Object;)Z", sig := { parameters := [(.object "java/lang/Object")], returnType := some .boolean }, accessFlags := 1, code := some k3c2 }
/-- com/example/velvet_rope/velvetrope/PenaltyPolicy -/
def k3 : Class := { plain "com/example/velvet_rope/velvetrope/PenaltyPolicy" (some 0) with
  accessFlags := 33
  interfaces := #[]
  cf := some (fileOf pool3 22 #[] #[{ accessFlags := 1, nameIndex := 5, descriptorIndex := 63, attributes := #[] }, { accessFlags := 10, nameIndex := 25, descriptorIndex := 26, attributes := #[] }, { accessFlags := 1, nameIndex := 79, descriptorIndex := 80, attributes := #[] }] 33 2 #[] #[{ accessFlags := 25, nameIndex := 68, descriptorIndex := 39, attributes := #[] }, { accessFlags := 25, nameIndex := 66, descriptorIndex := 67, attributes := #[] }, { accessFlags := 18, nameIndex := 31, descriptorIndex := 32, attributes := #[] }, { accessFlags := 18, nameIndex := 35, descriptorIndex := 32, attributes := #[] }, { accessFlags := 18, nameIndex := 38, descriptorIndex := 39, attributes := #[] }, { accessFlags := 18, nameIndex := 42, descriptorIndex := 39, attributes := #[] }])
  fields := #[{ name := "MAX_MILLIS", type := .long, accessFlags := 25, slot := 0, constantValue := 0 }, { name := "DEFAULT", type := (.object "com/example/velvet_rope/velvetrope/PenaltyPolicy"), accessFlags := 25, slot := 1, constantValue := 0 }, { name := "warnAt", type := .int, accessFlags := 18, slot := 0, constantValue := 0 }, { name := "banAt", type := .int, accessFlags := 18, slot := 1, constantValue := 0 }, { name := "banMillis", type := .long, accessFlags := 18, slot := 2, constantValue := 0 }, { name := "memoryMillis", type := .long, accessFlags := 18, slot := 3, constantValue := 0 }]
  methods := #[k3m0, k3m1, k3m2]
  instanceTypes := #[.int, .int, .long, .long]
  staticTypes := #[.long, (.object "com/example/velvet_rope/velvetrope/PenaltyPolicy")]
  resolved := Array.replicate 107 none
  statics := none }

def pool4 : Array CpInfo := pool [(1, .class_ 2), (0, u "java/io/Serializable"), (0, .class_ 4), (0, u "java/lang/Object")] 2

/-- java/io/Serializable -/
def k4 : Class := { plain "java/io/Serializable" (some 0) with
  accessFlags := 1537
  interfaces := #[]
  cf := some (fileOf pool4 1 #[] #[] 1537 3 #[] #[])
  fields := #[]
  methods := #[]
  instanceTypes := #[]
  staticTypes := #[]
  resolved := Array.replicate 7 none
  statics := none }

def pool5 : Array CpInfo := pool [(1, .class_ 2), (0, u "java/lang/Comparable"), (0, .class_ 4), (0, u "java/lang/Object")] 7

/-- java/lang/Comparable -/
def k5 : Class := { plain "java/lang/Comparable" (some 0) with
  accessFlags := 1537
  interfaces := #[]
  cf := some (fileOf pool5 1 #[] #[] 1537 3 #[] #[])
  fields := #[]
  methods := #[]
  instanceTypes := #[]
  staticTypes := #[]
  resolved := Array.replicate 12 none
  statics := none }

def pool6 : Array CpInfo := pool [(2, .class_ 4), (1, u "java/lang/CharSequence"), (42, .class_ 48), (0, u "java/lang/CharSequence$1CodePointIterator"), (10, .class_ 60), (0, u "java/lang/CharSequence$1CharIterator"), (5, .class_ 67), (0, u "java/lang/Object")] 63

/-- java/lang/CharSequence -/
def k6 : Class := { plain "java/lang/CharSequence" (some 0) with
  accessFlags := 1537
  interfaces := #[]
  cf := some (fileOf pool6 2 #[.nestMembers #[47, 59]] #[] 1537 66 #[] #[])
  fields := #[]
  methods := #[]
  instanceTypes := #[]
  staticTypes := #[]
  resolved := Array.replicate 131 none
  statics := none }

def pool7 : Array CpInfo := pool [(1, .class_ 2), (0, u "java/lang/constant/Constable"), (0, .class_ 4), (0, u "java/lang/Object")] 6

/-- java/lang/constant/Constable -/
def k7 : Class := { plain "java/lang/constant/Constable" (some 0) with
  accessFlags := 1537
  interfaces := #[]
  cf := some (fileOf pool7 1 #[] #[] 1537 3 #[] #[])
  fields := #[]
  methods := #[]
  instanceTypes := #[]
  staticTypes := #[]
  resolved := Array.replicate 11 none
  statics := none }

def pool8 : Array CpInfo := pool [(1, .class_ 2), (0, u "java/lang/constant/ConstantDesc"), (0, .class_ 4), (0, u "java/lang/Object")] 32

/-- java/lang/constant/ConstantDesc -/
def k8 : Class := { plain "java/lang/constant/ConstantDesc" (some 0) with
  accessFlags := 1537
  interfaces := #[]
  cf := some (fileOf pool8 1 #[] #[] 1537 3 #[] #[])
  fields := #[]
  methods := #[]
  instanceTypes := #[]
  staticTypes := #[]
  resolved := Array.replicate 37 none
  statics := none }

def pool9 : Array CpInfo := pool [(2, .class_ 4), (1, u "java/lang/Object"), (0, u "<init>"), (0, u "()V"), (3, .class_ 12), (1, u "java/lang/String"), (0, u "value"), (0, u "[B"), (2, u "coder"), (0, u "B"), (2, u "hash"), (0, u "I"), (2, u "hashIsZero"), (0, u "Z"), (13, u "COMPACT_STRINGS"), (534, .class_ 576), (0, u "java/lang/CharSequence"), (22, u "CASE_INSENSITIVE_ORDER"), (0, u "Ljava/util/Comparator;"), (500, u "serialPersistentFields"), (0, u "[Ljava/io/ObjectStreamField;"), (0, .class_ 1104), (0, u "java/lang/String$CaseInsensitiveComparator"), (1, .class_ 1107), (0, u "java/io/Serializable"), (0, .class_ 1109), (0, u "java/lang/Comparable"), (0, .class_ 1111), (0, u "java/lang/constant/Constable"), (0, .class_ 1113), (0, u "java/lang/constant/ConstantDesc"), (2, u "serialVersionUID"), (0, u "J"), (3, u "REPL"), (0, u "C"), (2, u "LATIN1"), (1, u "UTF16")] 323

def k9m0 : Method := { name := "<init>", desc := "()V", sig := { parameters := [], returnType := none }, accessFlags := 1, code := none }
/-- java/lang/String -/
def k9 : Class := { plain "java/lang/String" (some 0) with
  accessFlags := 49
  interfaces := #[4, 5, 6, 7, 8]
  cf := some (fileOf pool9 10 #[.nestMembers #[1103]] #[{ accessFlags := 1, nameIndex := 5, descriptorIndex := 6, attributes := #[] }] 49 2 #[1106, 1108, 575, 1110, 1112] #[{ accessFlags := 18, nameIndex := 13, descriptorIndex := 14, attributes := #[] }, { accessFlags := 18, nameIndex := 17, descriptorIndex := 18, attributes := #[] }, { accessFlags := 2, nameIndex := 21, descriptorIndex := 22, attributes := #[] }, { accessFlags := 2, nameIndex := 25, descriptorIndex := 26, attributes := #[] }, { accessFlags := 26, nameIndex := 1116, descriptorIndex := 1117, attributes := #[] }, { accessFlags := 24, nameIndex := 40, descriptorIndex := 26, attributes := #[] }, { accessFlags := 26, nameIndex := 1101, descriptorIndex := 1102, attributes := #[] }, { accessFlags := 26, nameIndex := 1121, descriptorIndex := 1122, attributes := #[] }, { accessFlags := 25, nameIndex := 599, descriptorIndex := 600, attributes := #[] }, { accessFlags := 24, nameIndex := 1125, descriptorIndex := 18, attributes := #[] }, { accessFlags := 24, nameIndex := 1127, descriptorIndex := 18, attributes := #[] }])
  fields := #[{ name := "value", type := (.array .byte), accessFlags := 18, slot := 0, constantValue := 0 }, { name := "coder", type := .byte, accessFlags := 18, slot := 1, constantValue := 0 }, { name := "hash", type := .int, accessFlags := 2, slot := 2, constantValue := 0 }, { name := "hashIsZero", type := .boolean, accessFlags := 2, slot := 3, constantValue := 0 }, { name := "serialVersionUID", type := .long, accessFlags := 26, slot := 0, constantValue := 0 }, { name := "COMPACT_STRINGS", type := .boolean, accessFlags := 24, slot := 1, constantValue := 0 }, { name := "serialPersistentFields", type := (.array (.object "java/io/ObjectStreamField")), accessFlags := 26, slot := 2, constantValue := 0 }, { name := "REPL", type := .char, accessFlags := 26, slot := 3, constantValue := 0 }, { name := "CASE_INSENSITIVE_ORDER", type := (.object "java/util/Comparator"), accessFlags := 25, slot := 4, constantValue := 0 }, { name := "LATIN1", type := .byte, accessFlags := 24, slot := 5, constantValue := 0 }, { name := "UTF16", type := .byte, accessFlags := 24, slot := 6, constantValue := 0 }]
  methods := #[k9m0]
  instanceTypes := #[(.array .byte), .byte, .int, .boolean]
  staticTypes := #[.long, .boolean, (.array (.object "java/io/ObjectStreamField")), .char, (.object "java/util/Comparator"), .byte, .byte]
  resolved := Array.replicate 1451 none
  statics := none }

def pool10 : Array CpInfo := pool [(1, .methodref 2 3), (0, .class_ 4), (0, .nameAndType 5 6), (0, u "java/lang/Object"), (0, u "<init>"), (0, u "()V"), (1, .class_ 10), (1, u "java/lang/Number"), (2, .class_ 14), (0, u "java/io/Serializable"), (0, u "serialVersionUID"), (0, u "J")] 20

def k10c0 : Code := { maxStack := 1, maxLocals := 1, code := jdk_18_method_1_code, exceptionTable := #[], attributes := #[] }
def k10m0 : Method := { name := "<init>", desc := "()V", sig := { parameters := [], returnType := none }, accessFlags := 1, code := some k10c0 }
/-- java/lang/Number -/
def k10 : Class := { plain "java/lang/Number" (some 0) with
  accessFlags := 1057
  interfaces := #[4]
  cf := some (fileOf pool10 8 #[] #[{ accessFlags := 1, nameIndex := 5, descriptorIndex := 6, attributes := #[] }] 1057 2 #[13] #[{ accessFlags := 26, nameIndex := 15, descriptorIndex := 16, attributes := #[] }])
  fields := #[{ name := "serialVersionUID", type := .long, accessFlags := 26, slot := 0, constantValue := 0 }]
  methods := #[k10m0]
  instanceTypes := #[]
  staticTypes := #[.long]
  resolved := Array.replicate 37 none
  statics := none }

def pool11 : Array CpInfo := pool [(1, .class_ 2), (0, u "java/lang/Integer"), (16, u "digits"), (0, u "[C"), (46, u "<init>"), (17, u "DigitOnes"), (0, u "[B"), (2, u "DigitTens"), (10, .nameAndType 67 101), (0, u "()V"), (85, u "valueOf"), (0, u "(I)Ljava/lang/Integer;"), (0, .class_ 190), (0, u "java/lang/Integer$IntegerCache"), (0, .fieldref 189 192), (0, .nameAndType 193 194), (0, u "high"), (0, u "I"), (0, .fieldref 189 196), (0, .nameAndType 197 198), (0, u "cache"), (0, u "[Ljava/lang/Integer;"), (0, .methodref 1 200), (0, .nameAndType 67 201), (0, u "(I)V"), (0, .methodref 203 100), (0, .class_ 204), (0, u "java/lang/Number"), (0, .fieldref 1 206), (0, .nameAndType 207 194), (0, u "value"), (94, u "TYPE"), (0, u "Ljava/lang/Class;"), (0, .class_ 305), (0, u "java/lang/Comparable"), (0, .class_ 307), (0, u "java/lang/constant/Constable"), (0, .class_ 309), (0, u "java/lang/constant/ConstantDesc"), (0, u "MIN_VALUE"), (1, u "MAX_VALUE"), (3, u "SIZE"), (1, u "BYTES"), (1, u "serialVersionUID"), (0, u "J")] 131

def k11c0 : Code := { maxStack := 3, maxLocals := 1, code := jdk_33_method_22_code, exceptionTable := #[], attributes := #[] }
def k11m0 : Method := { name := "valueOf", desc := "(I)Ljava/lang/Integer;", sig := { parameters := [.int], returnType := some (.object "java/lang/Integer") }, accessFlags := 9, code := some k11c0 }
def k11c1 : Code := { maxStack := 2, maxLocals := 2, code := jdk_33_method_23_code, exceptionTable := #[], attributes := #[] }
def k11m1 : Method := { name := "<init>", desc := "(I)V", sig := { parameters := [.int], returnType := none }, accessFlags := 1, code := some k11c1 }
/-- java/lang/Integer -/
def k11 : Class := { plain "java/lang/Integer" (some 10) with
  accessFlags := 49
  interfaces := #[5, 7, 8]
  cf := some (fileOf pool11 1 #[.nestMembers #[189]] #[{ accessFlags := 9, nameIndex := 187, descriptorIndex := 188, attributes := #[] }, { accessFlags := 1, nameIndex := 67, descriptorIndex := 201, attributes := #[] }] 49 203 #[304, 306, 308] #[{ accessFlags := 25, nameIndex := 310, descriptorIndex := 194, attributes := #[] }, { accessFlags := 25, nameIndex := 312, descriptorIndex := 194, attributes := #[] }, { accessFlags := 25, nameIndex := 302, descriptorIndex := 303, attributes := #[] }, { accessFlags := 24, nameIndex := 19, descriptorIndex := 20, attributes := #[] }, { accessFlags := 24, nameIndex := 89, descriptorIndex := 86, attributes := #[] }, { accessFlags := 24, nameIndex := 85, descriptorIndex := 86, attributes := #[] }, { accessFlags := 18, nameIndex := 207, descriptorIndex := 194, attributes := #[] }, { accessFlags := 25, nameIndex := 316, descriptorIndex := 194, attributes := #[] }, { accessFlags := 25, nameIndex := 318, descriptorIndex := 194, attributes := #[] }, { accessFlags := 26, nameIndex := 320, descriptorIndex := 321, attributes := #[] }])
  fields := #[{ name := "MIN_VALUE", type := .int, accessFlags := 25, slot := 0, constantValue := 0 }, { name := "MAX_VALUE", type := .int, accessFlags := 25, slot := 1, constantValue := 0 }, { name := "TYPE", type := (.object "java/lang/Class"), accessFlags := 25, slot := 2, constantValue := 0 }, { name := "digits", type := (.array .char), accessFlags := 24, slot := 3, constantValue := 0 }, { name := "DigitTens", type := (.array .byte), accessFlags := 24, slot := 4, constantValue := 0 }, { name := "DigitOnes", type := (.array .byte), accessFlags := 24, slot := 5, constantValue := 0 }, { name := "value", type := .int, accessFlags := 18, slot := 0, constantValue := 0 }, { name := "SIZE", type := .int, accessFlags := 25, slot := 6, constantValue := 0 }, { name := "BYTES", type := .int, accessFlags := 25, slot := 7, constantValue := 0 }, { name := "serialVersionUID", type := .long, accessFlags := 26, slot := 8, constantValue := 0 }]
  methods := #[k11m0, k11m1]
  instanceTypes := #[.int]
  staticTypes := #[.int, .int, (.object "java/lang/Class"), (.array .char), (.array .byte), (.array .byte), .int, .int, .long]
  resolved := Array.replicate 453 none
  statics := none }

def pool12 : Array CpInfo := pool [(2, .class_ 4), (1, u "java/lang/Object"), (0, u "<init>"), (0, u "()V"), (0, .class_ 8), (0, u "java/lang/Integer"), (7, .class_ 18), (1, u "java/lang/Integer$IntegerCache"), (0, u "$assertionsDisabled"), (0, u "Z"), (26, u "high"), (0, u "I"), (8, u "archivedCache"), (0, u "[Ljava/lang/Integer;"), (12, u "cache"), (0, u "low")] 27

def k12m0 : Method := { name := "<init>", desc := "()V", sig := { parameters := [], returnType := none }, accessFlags := 2, code := none }
/-- java/lang/Integer$IntegerCache -/
def k12 : Class := { plain "java/lang/Integer$IntegerCache" (some 0) with
  accessFlags := 48
  interfaces := #[]
  cf := some (fileOf pool12 16 #[.nestHost 7] #[{ accessFlags := 2, nameIndex := 5, descriptorIndex := 6, attributes := #[] }] 48 2 #[] #[{ accessFlags := 24, nameIndex := 72, descriptorIndex := 48, attributes := #[] }, { accessFlags := 24, nameIndex := 47, descriptorIndex := 48, attributes := #[] }, { accessFlags := 24, nameIndex := 71, descriptorIndex := 58, attributes := #[] }, { accessFlags := 8, nameIndex := 57, descriptorIndex := 58, attributes := #[] }, { accessFlags := 4120, nameIndex := 19, descriptorIndex := 20, attributes := #[] }])
  fields := #[{ name := "low", type := .int, accessFlags := 24, slot := 0, constantValue := 0 }, { name := "high", type := .int, accessFlags := 24, slot := 1, constantValue := 0 }, { name := "cache", type := (.array (.object "java/lang/Integer")), accessFlags := 24, slot := 2, constantValue := 0 }, { name := "archivedCache", type := (.array (.object "java/lang/Integer")), accessFlags := 8, slot := 3, constantValue := 0 }, { name := "$assertionsDisabled", type := .boolean, accessFlags := 4120, slot := 4, constantValue := 0 }]
  methods := #[k12m0]
  instanceTypes := #[]
  staticTypes := #[.int, .int, (.array (.object "java/lang/Integer")), (.array (.object "java/lang/Integer")), .boolean]
  resolved := Array.replicate 100 none
  statics := some 0 }

def pool13 : Array CpInfo := pool [(1, u "java/lang/Cloneable"), (0, .class_ 1), (0, u "java/lang/Object"), (0, .class_ 3)] 3

/-- java/lang/Cloneable -/
def k13 : Class := { plain "java/lang/Cloneable" (some 0) with
  accessFlags := 1537
  interfaces := #[]
  cf := some (fileOf pool13 2 #[] #[] 1537 4 #[] #[])
  fields := #[]
  methods := #[]
  instanceTypes := #[]
  staticTypes := #[]
  resolved := Array.replicate 8 none
  statics := none }

/-- the primitive byte -/
def k14 : Class := { plain "byte" none with kind := .primitive 'B', accessFlags := 0x411 }
/-- [B -/
def k15 : Class := { plain "[B" (some 0) with kind := .array 14 .byte, interfaces := #[13, 4], accessFlags := 1041 }

/-- the primitive int -/
def k16 : Class := { plain "int" none with kind := .primitive 'I', accessFlags := 0x411 }
/-- [I -/
def k17 : Class := { plain "[I" (some 0) with kind := .array 16 .int, interfaces := #[13, 4], accessFlags := 1041 }

/-- [Ljava/lang/Integer; -/
def k18 : Class := { plain "[Ljava/lang/Integer;" (some 0) with kind := .array 11 (.object "java/lang/Integer"), interfaces := #[13, 4], accessFlags := 1041 }

def heap : Heap := #[{ cls := 12, slots := #[.int 0, .int 127, .ref 1, .null, .int 0], vm := .statics 12 },
  { cls := 18, slots := #[.ref 2, .ref 3, .ref 4, .ref 5, .ref 6, .ref 7, .ref 8, .ref 9, .ref 10, .ref 11, .ref 12, .ref 13, .ref 14, .ref 15, .ref 16, .ref 17, .ref 18, .ref 19, .ref 20, .ref 21, .ref 22, .ref 23, .ref 24, .ref 25, .ref 26, .ref 27, .ref 28, .ref 29, .ref 30, .ref 31, .ref 32, .ref 33, .ref 34, .ref 35, .ref 36, .ref 37, .ref 38, .ref 39, .ref 40, .ref 41, .ref 42, .ref 43, .ref 44, .ref 45, .ref 46, .ref 47, .ref 48, .ref 49, .ref 50, .ref 51, .ref 52, .ref 53, .ref 54, .ref 55, .ref 56, .ref 57, .ref 58, .ref 59, .ref 60, .ref 61, .ref 62, .ref 63, .ref 64, .ref 65, .ref 66, .ref 67, .ref 68, .ref 69, .ref 70, .ref 71, .ref 72, .ref 73, .ref 74, .ref 75, .ref 76, .ref 77, .ref 78, .ref 79, .ref 80, .ref 81, .ref 82, .ref 83, .ref 84, .ref 85, .ref 86, .ref 87, .ref 88, .ref 89, .ref 90, .ref 91, .ref 92, .ref 93, .ref 94, .ref 95, .ref 96, .ref 97, .ref 98, .ref 99, .ref 100, .ref 101, .ref 102, .ref 103, .ref 104, .ref 105, .ref 106, .ref 107, .ref 108, .ref 109, .ref 110, .ref 111, .ref 112, .ref 113, .ref 114, .ref 115, .ref 116, .ref 117, .ref 118, .ref 119, .ref 120, .ref 121, .ref 122, .ref 123, .ref 124, .ref 125, .ref 126, .ref 127, .ref 128, .ref 129, .ref 130, .ref 131, .ref 132, .ref 133, .ref 134, .ref 135, .ref 136, .ref 137, .ref 138, .ref 139, .ref 140, .ref 141, .ref 142, .ref 143, .ref 144, .ref 145, .ref 146, .ref 147, .ref 148, .ref 149, .ref 150, .ref 151, .ref 152, .ref 153, .ref 154, .ref 155, .ref 156, .ref 157, .ref 158, .ref 159, .ref 160, .ref 161, .ref 162, .ref 163, .ref 164, .ref 165, .ref 166, .ref 167, .ref 168, .ref 169, .ref 170, .ref 171, .ref 172, .ref 173, .ref 174, .ref 175, .ref 176, .ref 177, .ref 178, .ref 179, .ref 180, .ref 181, .ref 182, .ref 183, .ref 184, .ref 185, .ref 186, .ref 187, .ref 188, .ref 189, .ref 190, .ref 191, .ref 192, .ref 193, .ref 194, .ref 195, .ref 196, .ref 197, .ref 198, .ref 199, .ref 200, .ref 201, .ref 202, .ref 203, .ref 204, .ref 205, .ref 206, .ref 207, .ref 208, .ref 209, .ref 210, .ref 211, .ref 212, .ref 213, .ref 214, .ref 215, .ref 216, .ref 217, .ref 218, .ref 219, .ref 220, .ref 221, .ref 222, .ref 223, .ref 224, .ref 225, .ref 226, .ref 227, .ref 228, .ref 229, .ref 230, .ref 231, .ref 232, .ref 233, .ref 234, .ref 235, .ref 236, .ref 237, .ref 238, .ref 239, .ref 240, .ref 241, .ref 242, .ref 243, .ref 244, .ref 245, .ref 246, .ref 247, .ref 248, .ref 249, .ref 250, .ref 251, .ref 252, .ref 253, .ref 254, .ref 255, .ref 256, .ref 257], vm := .none },
  { cls := 11, slots := #[.int (-128)], vm := .none },
  { cls := 11, slots := #[.int (-127)], vm := .none },
  { cls := 11, slots := #[.int (-126)], vm := .none },
  { cls := 11, slots := #[.int (-125)], vm := .none },
  { cls := 11, slots := #[.int (-124)], vm := .none },
  { cls := 11, slots := #[.int (-123)], vm := .none },
  { cls := 11, slots := #[.int (-122)], vm := .none },
  { cls := 11, slots := #[.int (-121)], vm := .none },
  { cls := 11, slots := #[.int (-120)], vm := .none },
  { cls := 11, slots := #[.int (-119)], vm := .none },
  { cls := 11, slots := #[.int (-118)], vm := .none },
  { cls := 11, slots := #[.int (-117)], vm := .none },
  { cls := 11, slots := #[.int (-116)], vm := .none },
  { cls := 11, slots := #[.int (-115)], vm := .none },
  { cls := 11, slots := #[.int (-114)], vm := .none },
  { cls := 11, slots := #[.int (-113)], vm := .none },
  { cls := 11, slots := #[.int (-112)], vm := .none },
  { cls := 11, slots := #[.int (-111)], vm := .none },
  { cls := 11, slots := #[.int (-110)], vm := .none },
  { cls := 11, slots := #[.int (-109)], vm := .none },
  { cls := 11, slots := #[.int (-108)], vm := .none },
  { cls := 11, slots := #[.int (-107)], vm := .none },
  { cls := 11, slots := #[.int (-106)], vm := .none },
  { cls := 11, slots := #[.int (-105)], vm := .none },
  { cls := 11, slots := #[.int (-104)], vm := .none },
  { cls := 11, slots := #[.int (-103)], vm := .none },
  { cls := 11, slots := #[.int (-102)], vm := .none },
  { cls := 11, slots := #[.int (-101)], vm := .none },
  { cls := 11, slots := #[.int (-100)], vm := .none },
  { cls := 11, slots := #[.int (-99)], vm := .none },
  { cls := 11, slots := #[.int (-98)], vm := .none },
  { cls := 11, slots := #[.int (-97)], vm := .none },
  { cls := 11, slots := #[.int (-96)], vm := .none },
  { cls := 11, slots := #[.int (-95)], vm := .none },
  { cls := 11, slots := #[.int (-94)], vm := .none },
  { cls := 11, slots := #[.int (-93)], vm := .none },
  { cls := 11, slots := #[.int (-92)], vm := .none },
  { cls := 11, slots := #[.int (-91)], vm := .none },
  { cls := 11, slots := #[.int (-90)], vm := .none },
  { cls := 11, slots := #[.int (-89)], vm := .none },
  { cls := 11, slots := #[.int (-88)], vm := .none },
  { cls := 11, slots := #[.int (-87)], vm := .none },
  { cls := 11, slots := #[.int (-86)], vm := .none },
  { cls := 11, slots := #[.int (-85)], vm := .none },
  { cls := 11, slots := #[.int (-84)], vm := .none },
  { cls := 11, slots := #[.int (-83)], vm := .none },
  { cls := 11, slots := #[.int (-82)], vm := .none },
  { cls := 11, slots := #[.int (-81)], vm := .none },
  { cls := 11, slots := #[.int (-80)], vm := .none },
  { cls := 11, slots := #[.int (-79)], vm := .none },
  { cls := 11, slots := #[.int (-78)], vm := .none },
  { cls := 11, slots := #[.int (-77)], vm := .none },
  { cls := 11, slots := #[.int (-76)], vm := .none },
  { cls := 11, slots := #[.int (-75)], vm := .none },
  { cls := 11, slots := #[.int (-74)], vm := .none },
  { cls := 11, slots := #[.int (-73)], vm := .none },
  { cls := 11, slots := #[.int (-72)], vm := .none },
  { cls := 11, slots := #[.int (-71)], vm := .none },
  { cls := 11, slots := #[.int (-70)], vm := .none },
  { cls := 11, slots := #[.int (-69)], vm := .none },
  { cls := 11, slots := #[.int (-68)], vm := .none },
  { cls := 11, slots := #[.int (-67)], vm := .none },
  { cls := 11, slots := #[.int (-66)], vm := .none },
  { cls := 11, slots := #[.int (-65)], vm := .none },
  { cls := 11, slots := #[.int (-64)], vm := .none },
  { cls := 11, slots := #[.int (-63)], vm := .none },
  { cls := 11, slots := #[.int (-62)], vm := .none },
  { cls := 11, slots := #[.int (-61)], vm := .none },
  { cls := 11, slots := #[.int (-60)], vm := .none },
  { cls := 11, slots := #[.int (-59)], vm := .none },
  { cls := 11, slots := #[.int (-58)], vm := .none },
  { cls := 11, slots := #[.int (-57)], vm := .none },
  { cls := 11, slots := #[.int (-56)], vm := .none },
  { cls := 11, slots := #[.int (-55)], vm := .none },
  { cls := 11, slots := #[.int (-54)], vm := .none },
  { cls := 11, slots := #[.int (-53)], vm := .none },
  { cls := 11, slots := #[.int (-52)], vm := .none },
  { cls := 11, slots := #[.int (-51)], vm := .none },
  { cls := 11, slots := #[.int (-50)], vm := .none },
  { cls := 11, slots := #[.int (-49)], vm := .none },
  { cls := 11, slots := #[.int (-48)], vm := .none },
  { cls := 11, slots := #[.int (-47)], vm := .none },
  { cls := 11, slots := #[.int (-46)], vm := .none },
  { cls := 11, slots := #[.int (-45)], vm := .none },
  { cls := 11, slots := #[.int (-44)], vm := .none },
  { cls := 11, slots := #[.int (-43)], vm := .none },
  { cls := 11, slots := #[.int (-42)], vm := .none },
  { cls := 11, slots := #[.int (-41)], vm := .none },
  { cls := 11, slots := #[.int (-40)], vm := .none },
  { cls := 11, slots := #[.int (-39)], vm := .none },
  { cls := 11, slots := #[.int (-38)], vm := .none },
  { cls := 11, slots := #[.int (-37)], vm := .none },
  { cls := 11, slots := #[.int (-36)], vm := .none },
  { cls := 11, slots := #[.int (-35)], vm := .none },
  { cls := 11, slots := #[.int (-34)], vm := .none },
  { cls := 11, slots := #[.int (-33)], vm := .none },
  { cls := 11, slots := #[.int (-32)], vm := .none },
  { cls := 11, slots := #[.int (-31)], vm := .none },
  { cls := 11, slots := #[.int (-30)], vm := .none },
  { cls := 11, slots := #[.int (-29)], vm := .none },
  { cls := 11, slots := #[.int (-28)], vm := .none },
  { cls := 11, slots := #[.int (-27)], vm := .none },
  { cls := 11, slots := #[.int (-26)], vm := .none },
  { cls := 11, slots := #[.int (-25)], vm := .none },
  { cls := 11, slots := #[.int (-24)], vm := .none },
  { cls := 11, slots := #[.int (-23)], vm := .none },
  { cls := 11, slots := #[.int (-22)], vm := .none },
  { cls := 11, slots := #[.int (-21)], vm := .none },
  { cls := 11, slots := #[.int (-20)], vm := .none },
  { cls := 11, slots := #[.int (-19)], vm := .none },
  { cls := 11, slots := #[.int (-18)], vm := .none },
  { cls := 11, slots := #[.int (-17)], vm := .none },
  { cls := 11, slots := #[.int (-16)], vm := .none },
  { cls := 11, slots := #[.int (-15)], vm := .none },
  { cls := 11, slots := #[.int (-14)], vm := .none },
  { cls := 11, slots := #[.int (-13)], vm := .none },
  { cls := 11, slots := #[.int (-12)], vm := .none },
  { cls := 11, slots := #[.int (-11)], vm := .none },
  { cls := 11, slots := #[.int (-10)], vm := .none },
  { cls := 11, slots := #[.int (-9)], vm := .none },
  { cls := 11, slots := #[.int (-8)], vm := .none },
  { cls := 11, slots := #[.int (-7)], vm := .none },
  { cls := 11, slots := #[.int (-6)], vm := .none },
  { cls := 11, slots := #[.int (-5)], vm := .none },
  { cls := 11, slots := #[.int (-4)], vm := .none },
  { cls := 11, slots := #[.int (-3)], vm := .none },
  { cls := 11, slots := #[.int (-2)], vm := .none },
  { cls := 11, slots := #[.int (-1)], vm := .none },
  { cls := 11, slots := #[.int 0], vm := .none },
  { cls := 11, slots := #[.int 1], vm := .none },
  { cls := 11, slots := #[.int 2], vm := .none },
  { cls := 11, slots := #[.int 3], vm := .none },
  { cls := 11, slots := #[.int 4], vm := .none },
  { cls := 11, slots := #[.int 5], vm := .none },
  { cls := 11, slots := #[.int 6], vm := .none },
  { cls := 11, slots := #[.int 7], vm := .none },
  { cls := 11, slots := #[.int 8], vm := .none },
  { cls := 11, slots := #[.int 9], vm := .none },
  { cls := 11, slots := #[.int 10], vm := .none },
  { cls := 11, slots := #[.int 11], vm := .none },
  { cls := 11, slots := #[.int 12], vm := .none },
  { cls := 11, slots := #[.int 13], vm := .none },
  { cls := 11, slots := #[.int 14], vm := .none },
  { cls := 11, slots := #[.int 15], vm := .none },
  { cls := 11, slots := #[.int 16], vm := .none },
  { cls := 11, slots := #[.int 17], vm := .none },
  { cls := 11, slots := #[.int 18], vm := .none },
  { cls := 11, slots := #[.int 19], vm := .none },
  { cls := 11, slots := #[.int 20], vm := .none },
  { cls := 11, slots := #[.int 21], vm := .none },
  { cls := 11, slots := #[.int 22], vm := .none },
  { cls := 11, slots := #[.int 23], vm := .none },
  { cls := 11, slots := #[.int 24], vm := .none },
  { cls := 11, slots := #[.int 25], vm := .none },
  { cls := 11, slots := #[.int 26], vm := .none },
  { cls := 11, slots := #[.int 27], vm := .none },
  { cls := 11, slots := #[.int 28], vm := .none },
  { cls := 11, slots := #[.int 29], vm := .none },
  { cls := 11, slots := #[.int 30], vm := .none },
  { cls := 11, slots := #[.int 31], vm := .none },
  { cls := 11, slots := #[.int 32], vm := .none },
  { cls := 11, slots := #[.int 33], vm := .none },
  { cls := 11, slots := #[.int 34], vm := .none },
  { cls := 11, slots := #[.int 35], vm := .none },
  { cls := 11, slots := #[.int 36], vm := .none },
  { cls := 11, slots := #[.int 37], vm := .none },
  { cls := 11, slots := #[.int 38], vm := .none },
  { cls := 11, slots := #[.int 39], vm := .none },
  { cls := 11, slots := #[.int 40], vm := .none },
  { cls := 11, slots := #[.int 41], vm := .none },
  { cls := 11, slots := #[.int 42], vm := .none },
  { cls := 11, slots := #[.int 43], vm := .none },
  { cls := 11, slots := #[.int 44], vm := .none },
  { cls := 11, slots := #[.int 45], vm := .none },
  { cls := 11, slots := #[.int 46], vm := .none },
  { cls := 11, slots := #[.int 47], vm := .none },
  { cls := 11, slots := #[.int 48], vm := .none },
  { cls := 11, slots := #[.int 49], vm := .none },
  { cls := 11, slots := #[.int 50], vm := .none },
  { cls := 11, slots := #[.int 51], vm := .none },
  { cls := 11, slots := #[.int 52], vm := .none },
  { cls := 11, slots := #[.int 53], vm := .none },
  { cls := 11, slots := #[.int 54], vm := .none },
  { cls := 11, slots := #[.int 55], vm := .none },
  { cls := 11, slots := #[.int 56], vm := .none },
  { cls := 11, slots := #[.int 57], vm := .none },
  { cls := 11, slots := #[.int 58], vm := .none },
  { cls := 11, slots := #[.int 59], vm := .none },
  { cls := 11, slots := #[.int 60], vm := .none },
  { cls := 11, slots := #[.int 61], vm := .none },
  { cls := 11, slots := #[.int 62], vm := .none },
  { cls := 11, slots := #[.int 63], vm := .none },
  { cls := 11, slots := #[.int 64], vm := .none },
  { cls := 11, slots := #[.int 65], vm := .none },
  { cls := 11, slots := #[.int 66], vm := .none },
  { cls := 11, slots := #[.int 67], vm := .none },
  { cls := 11, slots := #[.int 68], vm := .none },
  { cls := 11, slots := #[.int 69], vm := .none },
  { cls := 11, slots := #[.int 70], vm := .none },
  { cls := 11, slots := #[.int 71], vm := .none },
  { cls := 11, slots := #[.int 72], vm := .none },
  { cls := 11, slots := #[.int 73], vm := .none },
  { cls := 11, slots := #[.int 74], vm := .none },
  { cls := 11, slots := #[.int 75], vm := .none },
  { cls := 11, slots := #[.int 76], vm := .none },
  { cls := 11, slots := #[.int 77], vm := .none },
  { cls := 11, slots := #[.int 78], vm := .none },
  { cls := 11, slots := #[.int 79], vm := .none },
  { cls := 11, slots := #[.int 80], vm := .none },
  { cls := 11, slots := #[.int 81], vm := .none },
  { cls := 11, slots := #[.int 82], vm := .none },
  { cls := 11, slots := #[.int 83], vm := .none },
  { cls := 11, slots := #[.int 84], vm := .none },
  { cls := 11, slots := #[.int 85], vm := .none },
  { cls := 11, slots := #[.int 86], vm := .none },
  { cls := 11, slots := #[.int 87], vm := .none },
  { cls := 11, slots := #[.int 88], vm := .none },
  { cls := 11, slots := #[.int 89], vm := .none },
  { cls := 11, slots := #[.int 90], vm := .none },
  { cls := 11, slots := #[.int 91], vm := .none },
  { cls := 11, slots := #[.int 92], vm := .none },
  { cls := 11, slots := #[.int 93], vm := .none },
  { cls := 11, slots := #[.int 94], vm := .none },
  { cls := 11, slots := #[.int 95], vm := .none },
  { cls := 11, slots := #[.int 96], vm := .none },
  { cls := 11, slots := #[.int 97], vm := .none },
  { cls := 11, slots := #[.int 98], vm := .none },
  { cls := 11, slots := #[.int 99], vm := .none },
  { cls := 11, slots := #[.int 100], vm := .none },
  { cls := 11, slots := #[.int 101], vm := .none },
  { cls := 11, slots := #[.int 102], vm := .none },
  { cls := 11, slots := #[.int 103], vm := .none },
  { cls := 11, slots := #[.int 104], vm := .none },
  { cls := 11, slots := #[.int 105], vm := .none },
  { cls := 11, slots := #[.int 106], vm := .none },
  { cls := 11, slots := #[.int 107], vm := .none },
  { cls := 11, slots := #[.int 108], vm := .none },
  { cls := 11, slots := #[.int 109], vm := .none },
  { cls := 11, slots := #[.int 110], vm := .none },
  { cls := 11, slots := #[.int 111], vm := .none },
  { cls := 11, slots := #[.int 112], vm := .none },
  { cls := 11, slots := #[.int 113], vm := .none },
  { cls := 11, slots := #[.int 114], vm := .none },
  { cls := 11, slots := #[.int 115], vm := .none },
  { cls := 11, slots := #[.int 116], vm := .none },
  { cls := 11, slots := #[.int 117], vm := .none },
  { cls := 11, slots := #[.int 118], vm := .none },
  { cls := 11, slots := #[.int 119], vm := .none },
  { cls := 11, slots := #[.int 120], vm := .none },
  { cls := 11, slots := #[.int 121], vm := .none },
  { cls := 11, slots := #[.int 122], vm := .none },
  { cls := 11, slots := #[.int 123], vm := .none },
  { cls := 11, slots := #[.int 124], vm := .none },
  { cls := 11, slots := #[.int 125], vm := .none },
  { cls := 11, slots := #[.int 126], vm := .none },
  { cls := 11, slots := #[.int 127], vm := .none }]
def classes : Array Class := #[k0, k1, k2, k3, k4, k5, k6, k7, k8, k9, k10, k11, k12, k13, k14, k15, k16, k17, k18]
def interned : List (Array UInt16 × Addr) := []
def slotsUsed : Nat := 517
def theMethod : MethodId := ⟨1, 2⟩
def args0 : Array Value := #[.int 5, .int 9, .long 7, .long 8, .int 0, .long 3]
def aboutOver (below : List Frame) : State where
  vm := { classes := classes, interned := interned.toArray }
  heap := heap
  slotsUsed := slotsUsed
  threads := #[{ frames := .invoking theMethod args0 :: below }]
def below0 : List Frame := [.native { method := ⟨0, 0⟩, args := #[] }]
def about1 : State := aboutOver below0
def p0 : Program := .bare "" "" ""
def e0 : Env := launch0.env 0 0 0
theorem w_frames : about1.frames = Frame.invoking theMethod args0 :: below0 := rfl
set_option maxRecDepth 65536 in
theorem w_args : argsFit about1.vm theMethod args0 = true := by decide +kernel
set_option maxRecDepth 65536 in
theorem w_heap : heapFits about1 = true := by decide +kernel
set_option maxRecDepth 65536 in
theorem w_runnable : about1.curStatus? = some .runnable := by decide +kernel
set_option maxRecDepth 65536 in
theorem w_alone : about1.alone = true := by decide +kernel
set_option maxRecDepth 65536 in
theorem w_named : about1.methodNamed? x = some theMethod := by decide +kernel
set_option maxRecDepth 65536 in
theorem w_hears : about1.hears theMethod below0 = true := by decide +kernel
set_option maxRecDepth 65536 in
theorem w_ripe : about1.ripe theMethod args0 below0 = true := by decide +kernel
theorem w_running : about1.status = .running := rfl
set_option maxRecDepth 65536 in
theorem w_room : about1.hasRoom e0.platform room_1 = true :=
  launch0.hasRoom_least _ room_1 (by decide +kernel) (by decide +kernel) (by decide +kernel) (by decide +kernel) (by decide +kernel) (by decide +kernel)
theorem allAtoms_all (ts : List Jvm.Cond) (a : Array Jvm.Value) (st : Jvm.State) : (allAtoms ts).before a st = ts.all (fun c => c.before a st) := by
  induction ts with
  | nil => rfl
  | cons c t ih =>
    show (Jvm.Cond.and c (allAtoms t)).before a st = _
    rw [Jvm.Cond.before_and, ih, List.all_cons]
def words1 : List Jvm.Cond := Jvm.Cond.code x code maxLocals ret :: tables_1
/-- a 'code' word, met by the world's own term for the bytes: nothing is compared byte by byte -/
theorem code_word {y : MethodName} {bytes : ByteArray} {mx : Nat} {rt : Option FieldType} {a : Array Value} {s : State} {m : MethodId} {meth : Method} {c : Code} (h1 : s.methodNamed? y = some m) (h2 : s.vm.method? m = some meth) (h3 : meth.code = some c) (h4 : c.code = bytes)
    (h5 : (c.maxLocals == mx && c.exceptionTable.isEmpty && decide (c.maxStack ≤ mostOperands) && decide (meth.sig.returnType = rt) && !meth.locks && decide (parseMethodDescriptor y.desc = some meth.sig)) = true) : (Jvm.Cond.code y bytes mx rt).before a s = true := by
  simp only [Bool.and_eq_true, beq_iff_eq, Bool.not_eq_true', decide_eq_true_eq] at h5
  obtain ⟨⟨⟨⟨⟨g1, g2⟩, g3⟩, g4⟩, g5⟩, g6⟩ := h5
  simp [Cond.before, Cond.holds, Cond.value, h1, h2, h3, h4, g1, g2, g3, g4, g5, g6]
def isCode : Jvm.Cond → Bool
  | .code _ _ _ _ => true
  | _ => false
theorem all_split {L : List Jvm.Cond} {P : Jvm.Cond → Bool} (h1 : L.all (fun c => isCode c || P c) = true) (h2 : ∀ c ∈ L.filter isCode, P c = true) : L.all P = true := by
  refine List.all_eq_true.mpr fun c hc => ?_
  have h := List.all_eq_true.mp h1 c hc
  rcases Bool.eq_false_or_eq_true (isCode c) with hi | hi
  · exact h2 c (List.mem_filter.mpr ⟨hc, hi⟩)
  · simpa [hi] using h
set_option maxRecDepth 65536 in
theorem w_c0 : (Jvm.Cond.code x code maxLocals ret).before args0 about1 = true := code_word (m := ⟨1, 2⟩) (meth := k1m2) (c := k1c2) (by decide +kernel) rfl rfl rfl (by decide +kernel)
set_option maxRecDepth 65536 in
theorem w_c1 : (Jvm.Cond.code ({ cls := "java/lang/Math", name := "max", desc := "(II)I" } : Jvm.MethodName) jdk_29_method_65_code (2 : Nat) (Option.some Jvm.ClassFile.FieldType.int)).before args0 about1 = true := code_word (m := ⟨2, 1⟩) (meth := k2m1) (c := k2c1) (by decide +kernel) rfl rfl rfl (by decide +kernel)
set_option maxRecDepth 65536 in
theorem w_c2 : (Jvm.Cond.code ({ cls := "com/example/velvet_rope/velvetrope/PenaltyPolicyEqualsPinLaw", name := "millis", desc := "(J)J" } : Jvm.MethodName) method_2_code (2 : Nat) (Option.some Jvm.ClassFile.FieldType.long)).before args0 about1 = true := code_word (m := ⟨1, 1⟩) (meth := k1m1) (c := k1c1) (by decide +kernel) rfl rfl rfl (by decide +kernel)
set_option maxRecDepth 65536 in
theorem w_c3 : (Jvm.Cond.code ({ cls := "java/lang/Math", name := "min", desc := "(II)I" } : Jvm.MethodName) jdk_29_method_69_code (2 : Nat) (Option.some Jvm.ClassFile.FieldType.int)).before args0 about1 = true := code_word (m := ⟨2, 2⟩) (meth := k2m2) (c := k2c2) (by decide +kernel) rfl rfl rfl (by decide +kernel)
set_option maxRecDepth 65536 in
theorem w_c4 : (Jvm.Cond.code ({ cls := "com/example/velvet_rope/velvetrope/PenaltyPolicy", name := "<init>", desc := "(IIJJ)V" } : Jvm.MethodName) prog_12_method_1_code (7 : Nat) (Option.none : Option Jvm.ClassFile.FieldType)).before args0 about1 = true := code_word (m := ⟨3, 0⟩) (meth := k3m0) (c := k3c0) (by decide +kernel) rfl rfl rfl (by decide +kernel)
set_option maxRecDepth 65536 in
theorem w_c5 : (Jvm.Cond.code ({ cls := "java/lang/Object", name := "<init>", desc := "()V" } : Jvm.MethodName) object_method_1_code (1 : Nat) (Option.none : Option Jvm.ClassFile.FieldType)).before args0 about1 = true := code_word (m := ⟨0, 0⟩) (meth := k0m0) (c := k0c0) (by decide +kernel) rfl rfl rfl (by decide +kernel)
set_option maxRecDepth 65536 in
theorem w_c6 : (Jvm.Cond.code ({ cls := "com/example/velvet_rope/velvetrope/PenaltyPolicy", name := "checkMillis", desc := "(Ljava/lang/String;J)V" } : Jvm.MethodName) prog_12_method_2_code (3 : Nat) (Option.none : Option Jvm.ClassFile.FieldType)).before args0 about1 = true := code_word (m := ⟨3, 1⟩) (meth := k3m1) (c := k3c1) (by decide +kernel) rfl rfl rfl (by decide +kernel)
set_option maxRecDepth 65536 in
theorem w_c7 : (Jvm.Cond.code ({ cls := "com/example/velvet_rope/velvetrope/PenaltyPolicy", name := "equals", desc := "(Ljava/lang/Object;)Z" } : Jvm.MethodName) prog_12_method_7_code (3 : Nat) (Option.some Jvm.ClassFile.FieldType.boolean)).before args0 about1 = true := code_word (m := ⟨3, 2⟩) (meth := k3m2) (c := k3c2) (by decide +kernel) rfl rfl rfl (by decide +kernel)
set_option maxRecDepth 65536 in
theorem w_c8 : (Jvm.Cond.code ({ cls := "java/lang/Integer", name := "valueOf", desc := "(I)Ljava/lang/Integer;" } : Jvm.MethodName) jdk_33_method_22_code (1 : Nat) (Option.some (Jvm.ClassFile.FieldType.object "java/lang/Integer"))).before args0 about1 = true := code_word (m := ⟨11, 0⟩) (meth := k11m0) (c := k11c0) (by decide +kernel) rfl rfl rfl (by decide +kernel)
set_option maxRecDepth 65536 in
theorem w_c9 : (Jvm.Cond.code ({ cls := "java/lang/Integer", name := "<init>", desc := "(I)V" } : Jvm.MethodName) jdk_33_method_23_code (2 : Nat) (Option.none : Option Jvm.ClassFile.FieldType)).before args0 about1 = true := code_word (m := ⟨11, 1⟩) (meth := k11m1) (c := k11c1) (by decide +kernel) rfl rfl rfl (by decide +kernel)
set_option maxRecDepth 65536 in
theorem w_c10 : (Jvm.Cond.code ({ cls := "java/lang/Number", name := "<init>", desc := "()V" } : Jvm.MethodName) jdk_18_method_1_code (1 : Nat) (Option.none : Option Jvm.ClassFile.FieldType)).before args0 about1 = true := code_word (m := ⟨10, 0⟩) (meth := k10m0) (c := k10c0) (by decide +kernel) rfl rfl rfl (by decide +kernel)
def codes1 : List Jvm.Cond := [Jvm.Cond.code x code maxLocals ret, Jvm.Cond.code ({ cls := "java/lang/Math", name := "max", desc := "(II)I" } : Jvm.MethodName) jdk_29_method_65_code (2 : Nat) (Option.some Jvm.ClassFile.FieldType.int), Jvm.Cond.code ({ cls := "com/example/velvet_rope/velvetrope/PenaltyPolicyEqualsPinLaw", name := "millis", desc := "(J)J" } : Jvm.MethodName) method_2_code (2 : Nat) (Option.some Jvm.ClassFile.FieldType.long), Jvm.Cond.code ({ cls := "java/lang/Math", name := "min", desc := "(II)I" } : Jvm.MethodName) jdk_29_method_69_code (2 : Nat) (Option.some Jvm.ClassFile.FieldType.int), Jvm.Cond.code ({ cls := "com/example/velvet_rope/velvetrope/PenaltyPolicy", name := "<init>", desc := "(IIJJ)V" } : Jvm.MethodName) prog_12_method_1_code (7 : Nat) (Option.none : Option Jvm.ClassFile.FieldType), Jvm.Cond.code ({ cls := "java/lang/Object", name := "<init>", desc := "()V" } : Jvm.MethodName) object_method_1_code (1 : Nat) (Option.none : Option Jvm.ClassFile.FieldType), Jvm.Cond.code ({ cls := "com/example/velvet_rope/velvetrope/PenaltyPolicy", name := "checkMillis", desc := "(Ljava/lang/String;J)V" } : Jvm.MethodName) prog_12_method_2_code (3 : Nat) (Option.none : Option Jvm.ClassFile.FieldType), Jvm.Cond.code ({ cls := "com/example/velvet_rope/velvetrope/PenaltyPolicy", name := "equals", desc := "(Ljava/lang/Object;)Z" } : Jvm.MethodName) prog_12_method_7_code (3 : Nat) (Option.some Jvm.ClassFile.FieldType.boolean), Jvm.Cond.code ({ cls := "java/lang/Integer", name := "valueOf", desc := "(I)Ljava/lang/Integer;" } : Jvm.MethodName) jdk_33_method_22_code (1 : Nat) (Option.some (Jvm.ClassFile.FieldType.object "java/lang/Integer")), Jvm.Cond.code ({ cls := "java/lang/Integer", name := "<init>", desc := "(I)V" } : Jvm.MethodName) jdk_33_method_23_code (2 : Nat) (Option.none : Option Jvm.ClassFile.FieldType), Jvm.Cond.code ({ cls := "java/lang/Number", name := "<init>", desc := "()V" } : Jvm.MethodName) jdk_18_method_1_code (1 : Nat) (Option.none : Option Jvm.ClassFile.FieldType)]
set_option maxRecDepth 65536 in
theorem codes_eq : words1.filter isCode = codes1 := rfl
theorem w_codes : ∀ c ∈ words1.filter isCode, c.before args0 about1 = true := by
  rw [codes_eq]
  intro c hc
  simp only [codes1, List.mem_cons, List.not_mem_nil, or_false] at hc
  rcases hc with rfl | rfl | rfl | rfl | rfl | rfl | rfl | rfl | rfl | rfl | rfl
  · exact w_c0
  · exact w_c1
  · exact w_c2
  · exact w_c3
  · exact w_c4
  · exact w_c5
  · exact w_c6
  · exact w_c7
  · exact w_c8
  · exact w_c9
  · exact w_c10
set_option maxRecDepth 65536 in
theorem w_t1 : (words1.take 24).all (fun c => isCode c || c.before args0 about1) = true := by decide +kernel
set_option maxRecDepth 65536 in
theorem w_t2 : ((words1.drop 24).take 24).all (fun c => isCode c || c.before args0 about1) = true := by decide +kernel
set_option maxRecDepth 65536 in
theorem w_t3 : (((words1.drop 24).drop 24).take 24).all (fun c => isCode c || c.before args0 about1) = true := by decide +kernel
set_option maxRecDepth 65536 in
theorem w_t4 : (((words1.drop 24).drop 24).drop 24).all (fun c => isCode c || c.before args0 about1) = true := by decide +kernel
theorem w_tables : (allAtoms (Jvm.Cond.code x code maxLocals ret :: tables_1)).before args0 about1 = true := by
  rw [allAtoms_all]
  show words1.all (fun c => c.before args0 about1) = true
  refine all_split ?_ w_codes
  rw [← List.take_append_drop 24 words1, List.all_append, w_t1, ← List.take_append_drop 24 (words1.drop 24), List.all_append, w_t2, ← List.take_append_drop 24 ((words1.drop 24).drop 24), List.all_append, w_t3, w_t4]
  rfl
set_option maxRecDepth 65536 in
theorem w_rest : rest_1_c.before args0 about1 = true := by decide +kernel
set_option maxRecDepth 65536 in
theorem w_case : (Jvm.Cond.and given_1 narrow_1).before args0 about1 = true := by decide +kernel
theorem w_applies : (headSpec (Jvm.Cond.code x code maxLocals ret :: tables_1) room_1).applies x e0.platform about1 = true :=
  (Spec.applies_iff w_frames).mpr ⟨w_running, w_runnable, w_alone, w_named, w_hears, w_ripe, w_room, w_tables⟩
theorem atStart : AtStart classFile x code maxLocals ret World_1 tables_1 room_1 Calls_1 rest_1 Pre_1 launch0 p0 e0 about1 theMethod args0 below0 :=
  ⟨lists_1, trivial, launch0.admits_env _ _ _, launch0.least_env, fairChoices_fair.cas, fairChoices_fair.clock, w_frames, w_args, w_heap, w_applies, trivial, w_rest, w_case⟩
end start1
theorem witness_1 : WitnessClaimed_1 := ⟨start1.p0, start1.e0, start1.about1, start1.theMethod, start1.args0, start1.below0, start1.atStart⟩
end Jvm.Pilot.@@N@@
