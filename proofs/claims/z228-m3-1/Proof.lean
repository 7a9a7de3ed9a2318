import JvmDerived
import JvmDerived.Pilot.@@N@@Statement
import JvmDerived.Pilot.@@N@@Code
set_option linter.unusedVariables false
set_option linter.unusedSimpArgs false
@@BLOCK:LamKit.lean.txt@@
namespace Jvm.Pilot.@@N@@
open Jvm Jvm.ClassFile Sem Op Lib Jvm.Free Jvm.Stand Jvm.LawKit Jvm.RoadKit Bundle Jvm.Pilot.@@N@@.Jvm.D
abbrev sF (T : State) (m : MethodId) (pc : Nat) (Ls : Array Slot) (st : List Value) : State := T.setTop (mkF m pc Ls st)
/-- from F the run goes on to the method's end, and W holds there -/
def Goes (p : Program) (e : Env) (below : List Frame) (W : Outcome → State → Prop) (F : State) : Prop := ∃ s₂ o, Steps p.tables e below F s₂ ∧ s₂.status = .running ∧ Ended s₂ below o ∧ W o s₂
theorem Goes.step {p : Program} {e : Env} {below : List Frame} {W : Outcome → State → Prop} {F F' : State} (g : Goes p e below W F') (h : ∀ t, Steps p.tables e below F' t → Steps p.tables e below F t) : Goes p e below W F := by
  obtain ⟨s₂, o, h1, h2⟩ := g
  exact ⟨s₂, o, h _ h1, h2⟩
section Fin
variable {p : Program} {l : Launch} {e : Env} {R : Room} {s : State} {m : MethodId} {args : Array Value} {below : List Frame} {meth : Method} {c : Code} {T : State} {locs : List Loc} {cells slots : Nat}
theorem own_out (X : Stand p l e R s m args below meth c T locs cells slots) (hx : p.tables.exec = Jvm.exec) (hlk : meth.locks = false) {pc : Nat} {Ls : Array Slot} {w : Value} {t : FieldType} {i : Instr} {rest : List Value} {P : Option Value → Heap → List Loc → Prop} {C N : Nat} (hret : meth.sig.returnType = some t) (hn : narrow t w = w)
    (hi : (i = .ireturn ∧ (t = .int ∨ t = .boolean ∨ t = .byte ∨ t = .char ∨ t = .short) ∧ ∃ z, w = .int z) ∨ (i = .lreturn ∧ t = .long ∧ ∃ z, w = .long z) ∨ (i = .dreturn ∧ t = .double ∧ ∃ z, w = .double z) ∨ (i = .freturn ∧ t = .float ∧ ∃ z, w = .float z) ∨ (i = .areturn ∧ t.isReference = true ∧ w.isRef = true))
    (hd : decode c.code pc = .ok (i, 1)) (hP : P (some w) T.heap locs) (hC : cells ≤ C) (hN : slots ≤ N) :
    Goes p e below (fun o U' => ∃ v L, o = .returned v ∧ P v U'.heap L ∧ FrameEnd s o U' L C N) (T.setTop (mkF m pc Ls (w :: rest))) := by
  obtain ⟨fs, hr, hrun, hended, hW, hsame⟩ := X.leave (v := some w) (fun h => by rw [hret] at h; cases h)
  exact ⟨_, _, retOut X hx hret hn hi hd hr, hrun, hended, _, _, rfl, hP, ⟨_, rfl⟩, hW, hsame.mono hC hN⟩
theorem own_outV (X : Stand p l e R s m args below meth c T locs cells slots) (hx : p.tables.exec = Jvm.exec) (hlk : meth.locks = false) {pc : Nat} {Ls : Array Slot} {P : Option Value → Heap → List Loc → Prop} {C N : Nat} (hret : meth.sig.returnType = none)
    (hd : decode c.code pc = .ok (.return_, 1)) (hP : P none T.heap locs) (hC : cells ≤ C) (hN : slots ≤ N) :
    Goes p e below (fun o U' => ∃ v L, o = .returned v ∧ P v U'.heap L ∧ FrameEnd s o U' L C N) (T.setTop (mkF m pc Ls [])) := by
  obtain ⟨fs, hr, hrun, hended, hW, hsame⟩ := X.leave (v := none) (fun _ => rfl)
  exact ⟨_, _, X.returnOut hx hret hd hr, hrun, hended, _, _, rfl, hP, ⟨_, rfl⟩, hW, hsame.mono hC hN⟩
theorem own_outW {vm₁ : Vm} {n : Nat} (X : Stand p l e R (s.setVm vm₁) m args below meth c T locs cells slots) (hS : s.Since vm₁ n) (hn : n ≤ T.heap.size) (hx : p.tables.exec = Jvm.exec) (hlk : meth.locks = false) {pc : Nat} {Ls : Array Slot} {w : Value} {t : FieldType} {i : Instr} {rest : List Value} {P : Option Value → Heap → List Loc → Prop} {C N : Nat} (hret : meth.sig.returnType = some t) (hnw : narrow t w = w)
    (hi : (i = .ireturn ∧ (t = .int ∨ t = .boolean ∨ t = .byte ∨ t = .char ∨ t = .short) ∧ ∃ z, w = .int z) ∨ (i = .lreturn ∧ t = .long ∧ ∃ z, w = .long z) ∨ (i = .dreturn ∧ t = .double ∧ ∃ z, w = .double z) ∨ (i = .freturn ∧ t = .float ∧ ∃ z, w = .float z) ∨ (i = .areturn ∧ t.isReference = true ∧ w.isRef = true))
    (hd : decode c.code pc = .ok (i, 1)) (hP : P (some w) T.heap locs) (hC : cells ≤ C) (hN : slots ≤ N) :
    Goes p e below (fun o U' => ∃ v L, o = .returned v ∧ P v U'.heap L ∧ ReturnedEndW s o U' L C N) (T.setTop (mkF m pc Ls (w :: rest))) := by
  obtain ⟨fs, hr, hrun, hended, h1, h2, h3, h4⟩ := X.leaveW hS hn (v := some w) (fun h => by rw [hret] at h; cases h)
  exact ⟨_, _, retOut X hx hret hnw hi hd hr, hrun, hended, _, _, rfl, hP, h1, h2, h3, h4.mono hC hN⟩
theorem own_outVW {vm₁ : Vm} {n : Nat} (X : Stand p l e R (s.setVm vm₁) m args below meth c T locs cells slots) (hS : s.Since vm₁ n) (hn : n ≤ T.heap.size) (hx : p.tables.exec = Jvm.exec) (hlk : meth.locks = false) {pc : Nat} {Ls : Array Slot} {P : Option Value → Heap → List Loc → Prop} {C N : Nat} (hret : meth.sig.returnType = none)
    (hd : decode c.code pc = .ok (.return_, 1)) (hP : P none T.heap locs) (hC : cells ≤ C) (hN : slots ≤ N) :
    Goes p e below (fun o U' => ∃ v L, o = .returned v ∧ P v U'.heap L ∧ ReturnedEndW s o U' L C N) (T.setTop (mkF m pc Ls [])) := by
  obtain ⟨fs, hr, hrun, hended, h1, h2, h3, h4⟩ := X.leaveW hS hn (v := none) (fun _ => rfl)
  exact ⟨_, _, X.returnOut hx hret hd hr, hrun, hended, _, _, rfl, hP, h1, h2, h3, h4.mono hC hN⟩
theorem own_lrem {g : JFrame} {target : State} (X : Stand p l e R s m args below meth c T locs cells slots) (hx : p.tables.exec = Jvm.exec) (hg : g.method = m) {x y : Int64} {rest : List Value} (hd : decode c.code g.pc = .ok (.lrem, 1)) (hs : g.stack = .long y :: .long x :: rest) (hy : y ≠ 0)
    (hr : Steps p.tables e below (T.setTop { g with pc := g.pc + 1, stack := .long (x % y) :: rest }) target) : Steps p.tables e below (T.setTop g) target := by
  have q : x - x / y * y = x % y := lrem_mod x y
  exact XS.lrem X.here hx hg hd hs hy (by rw [q]; exact hr)
end Fin
abbrev sgm : Lambda.Shape := Lambda.Shape.mk "com/example/borderline/borderline/BorderTable$Symbols" "same" ⟨[.int, .int], some .boolean⟩ [.array .byte] 6 "com/example/borderline/borderline/BorderTable" "lambda$symbolsOf$0" ⟨[.array .byte, .int, .int], some .boolean⟩ false ⟨[.int, .int], some .boolean⟩
abbrev symN : MethodName := ⟨"com/example/borderline/borderline/BorderTable", "symbolsOf", "([B)Lcom/example/borderline/borderline/BorderTable$Symbols;"⟩
abbrev xiN : MethodName := ⟨"com/example/borderline/borderline/BorderTable$Symbols", "same", "(II)Z"⟩
abbrev lamN : MethodName := ⟨"com/example/borderline/borderline/BorderTable", "lambda$symbolsOf$0", "([BII)Z"⟩
def fcode : ByteArray := ⟨#[0x2a, 0xb4, 0x00, 0x0f, 0x1b, 0x1c, 0xb8, 0x00, 0x17, 0xac]⟩
theorem fwd : Jvm.LamKit.fwdOK sgm "com/example/borderline/borderline/BorderTable" fcode 3 (some .boolean) 23 19 = true := by decide +kernel
theorem cap : Jvm.LamKit.capOK sgm "com/example/borderline/borderline/BorderTable" 15 0 = true := by decide +kernel
theorem f0 : decode fcode 0 = .ok (.aload_n 0, 1) := by decide +kernel
theorem f1 : decode fcode 1 = .ok (.getfield 15, 3) := by decide +kernel
theorem f4 : decode fcode 4 = .ok (.iload_n 1, 1) := by decide +kernel
theorem f5 : decode fcode 5 = .ok (.iload_n 2, 1) := by decide +kernel
theorem f6 : decode fcode 6 = .ok (.invokestatic 23, 3) := by decide +kernel
theorem f9 : decode fcode 9 = .ok (.ireturn, 1) := by decide +kernel
theorem own_backH {l : Launch} {R : Room} {p : Program} {e : Env} {below : List Frame} {s Z : State} {args a0 : Array Value} {h : Heap} {y : MethodName} {bytes : ByteArray} {maxL : Nat} {ret : Option FieldType} {rm : Room} {len W : Nat} {as' : Array Value} {Q : Option Value → Heap → List Loc → Prop}
    (hM : MetFree l y (head1 [Cond.code y bytes maxL ret] rm) (fun a U => a = as' ∧ Z.WarmedH U.vm ∧ U.heap = h) (fun _ _ _ _ _ => True) (fun _ U o U' => ∃ v L, o = .returned v ∧ Q v U'.heap L ∧ FrameEnd U o U' L rm.cells rm.slots))
    (hZ : Z.WarmedH s.vm) (wc : (Cond.code y bytes maxL ret).before a0 Z = true) (wz : (Cond.initialized y.cls).before a0 Z = true) (hf : rm.frames + 1 ≤ R.frames) (hl : W + (maxL + 11) + rm.locals ≤ R.locals) :
    Back l R p e below s args y len W (fun A a => a = as' ∧ A.U.heap = h ∧ A.cells + rm.cells ≤ R.cells ∧ A.slots + rm.slots ≤ R.slots)
      (fun A _ v B => ∃ L, Q v B.U.heap L ∧ B.locs = A.locs ++ L ∧ B.cells = A.cells + rm.cells ∧ B.slots = A.slots + rm.slots) :=
  Back.of_free (bytes := bytes) (maxL := maxL) (ret := ret) (E := fun _ _ o t L k n => k = rm.cells ∧ n = rm.slots ∧ ∃ v, o = .returned v ∧ Q v t.heap L) hM hf hl
    (fun m meth c A a Y hp => have hU : Z.Warmed39 A.U.vm := wtrans hZ.wide Y.warmed
      ⟨by show (Cond.and _ .tt).before a A.U = true; rw [Cond.before_and, mv hU wc]; rfl, mv hU wc, mv hU wz, hp.2.2.1, hp.2.2.2⟩)
    (fun m meth c A a g mk Y hp => ⟨hp.1, State.WarmedH.trans hZ Y.warmed, hp.2.1⟩) (fun _ _ _ _ _ _ _ _ _ => trivial)
    (fun _ _ _ _ ⟨v, L, h1, h2, h3⟩ => ⟨L, _, _, h3, rfl, rfl, v, h1, h2⟩)
    (fun m meth c A a g mk v t L k n Y hp _ _ ⟨e1, e2, v', e3, e4⟩ => by cases e3; subst e1 e2; exact ⟨L, e4, rfl, rfl, rfl⟩)
theorem own_push {h : Heap} {c : Cell} : Ext h (h.push c) := ⟨by simp, fun a x q => by
  have hl := (Array.getElem?_eq_some_iff.mp q).1
  rw [Array.getElem?_push, if_neg (Nat.ne_of_lt hl)]; exact q⟩
/-- the site's reader at a later state: a lambda that captures reads no heap -/
theorem own_lamAt {Z s : State} {x : MethodName} {pc index : Nat} {sh : Lambda.Shape} {c : ClassId} {one : Option Addr} (hW : Z.WarmedH s.vm) (hsame : Z.sameButNew Z [] 0 0) (hcap : sh.captured ≠ []) (h : Z.lambdaAt? x pc index sh = some (c, one)) : s.lambdaAt? x pc index sh = some (c, one) := by
  have h2 := State.lambdaAt?_rides (t := Z.setVm s.vm) hW hsame h
  obtain ⟨m, kc, cf, i0, p0, l, hm, hk, hcf, hsh, hin, hfind, hmade, hcall, hl⟩ := State.lambdaAt?_spec h2
  obtain ⟨m2, k2, hm2, hk2, hjdk, howes⟩ := State.lambdaAt?_road h2
  cases hm.symm.trans hm2
  cases hk.symm.trans hk2
  have hm' : s.methodNamed? x = some m := hm
  have hk' : s.vm.classes[m.cls]? = some kc := hk
  have hmade' : Lambda.isMade { classPath := fun _ => none } s.vm m.cls sh c = true := hmade
  have hcall' : s.lambdaCallable sh c = true := hcall
  have howes' : (s.vm.findClass sh.iface).bind (Lambda.owesInit s.vm) = none := howes
  have hany : ((Lambda.sitesOf kc).any fun y => decide (y = (m.idx, pc, index, sh))) = true := by simpa using hin
  rcases hl with ⟨a, cell, rfl, rfl, hc0, -⟩ | ⟨rfl, rfl, hc1⟩
  · exact absurd hc0 hcap
  · simp [State.lambdaAt?, guard, hjdk, howes', hm', hk', hcf, hsh, hany, hfind, hc1, hmade', hcall']
theorem own_made {s : State} {x : MethodName} {pc index : Nat} {sh : Lambda.Shape} {c : ClassId} {one : Option Addr} (h : s.lambdaAt? x pc index sh = some (c, one)) : Jvm.LamKit.Made s x.cls sh c := by
  obtain ⟨mD, kD, cfD, i0, p0, lk, hmD, hkD, hcfD, hsh, -, hfind, hmade, hcan, hl⟩ := State.lambdaAt?_spec h
  obtain ⟨kD', hkD', hnameD⟩ := className_of_methodNamed hmD
  cases hkD.symm.trans hkD'
  exact ⟨_, kD, hkD, hnameD, hmade, hcan⟩
section Site
variable {p : Program} {l : Launch} {e : Env} {R : Room} {s : State} {m : MethodId} {args : Array Value} {below : List Frame} {meth : Method} {c : Code} {T : State} {locs : List Loc} {cells slots : Nat}
/-- the kit's siteMakes, with the made class known beforehand -/
theorem own_site (X : Stand p l e R s m args below meth c T locs cells slots) (hexec : p.tables.exec = Jvm.exec) {x : MethodName} {pc index fi : Nat} {sh : Lambda.Shape} {cK : ClassId} {one : Option Addr} (hnamed : s.methodNamed? x = some m)
    (hat : s.lambdaAt? x pc index sh = some (cK, one)) (hcap : sh.captured ≠ []) (hok : Jvm.LamKit.capOK sh x.cls fi 0 = true) (hO : (Cond.instantiable "java/lang/Object" 0).before args s = true)
    {g : JFrame} (hg : g.method = m) (hpc : g.pc = pc) (hsize : g.locals.size = c.maxLocals) (hdg : decode c.code g.pc = .ok (.invokedynamic index, 5))
    {vals rest : List Value} (hlen : vals.length = sh.captured.length) (hstack : g.stack = vals.reverse ++ rest) (hfit : ∀ (i : Nat) t v, sh.captured[i]? = some t → vals[i]? = some v → narrow t v = v ∧ fits t v = true)
    (hwords : 2 * g.monitorRoom + (g.stack.map fun v => v.category).sum + 3072 ≤ R.locals) (hcells : cells + 1 ≤ R.cells) (hslots : slots + vals.length ≤ R.slots) :
    Stand p l e R s m args below meth c (T.pushCell { cls := cK, slots := vals.toArray, vm := .none }) locs (cells + 1) (slots + vals.length) ∧
      ∀ target, Steps p.tables e below ((T.pushCell { cls := cK, slots := vals.toArray, vm := .none }).setTop { g with pc := g.pc + 5, stack := .ref T.heap.size :: rest }) target → Steps p.tables e below (T.setTop g) target := by
  obtain ⟨mD, kD, cfD, i0, p0, lk, hmD, hkD, hcfD, hsh, -, hfind, hmade, hcan, hl⟩ := State.lambdaAt?_spec hat
  cases hnamed.symm.trans hmD
  obtain ⟨kD', hkD', hnameD⟩ := className_of_methodNamed hnamed
  cases hkD.symm.trans hkD'
  rcases hl with ⟨a, cell, -, -, hc0, -⟩ | ⟨rfl, -, -⟩
  · exact absurd hc0 hcap
  · obtain ⟨b, nt, desc, site, h1, h2, h3, h4⟩ := Lambda.shapeOf?_site hsh
    obtain ⟨kc, f, hkc, hkind, hty, -⟩ := Jvm.LamKit.made_cap hok hkD hnameD hmade (Jvm.LamKit.noFields hO (State.WarmedH.refl s))
    have hz : ((kc.instanceTypes.toList.zip vals).map fun (t, v) => narrow t v) = vals := by rw [hty]; exact Jvm.LamKit.zip_narrow _ _ hlen fun i t v a b => (hfit i t v a b).1
    have hw : e.platform.lambdaLinkWords = 3072 := by rw [X.admits.platform]
    have q := X.lambdaMakes hexec hg hsize hdg (vals := vals) (rest := rest) hkD (by rw [hpc]; exact hfind) hcfD h1 h2 (parseLong_of_parse h3) (by rw [h4]; exact hlen) hstack hkc (by rw [hw]; exact hwords) hcells (by rw [hz]; exact hslots)
      (fun i v hv => by
        rw [hz] at hv
        have hv' : vals[i]? = some v := by simpa using hv
        have hi : i < sh.captured.length := by rw [← hlen]; exact (List.getElem?_eq_some_iff.mp hv').1
        have := (hfit i _ v (List.getElem?_eq_getElem hi) hv').2
        simp [State.fitsSlot, State.slotType?, hkc, hkind, hty, List.getElem?_eq_getElem hi, this])
    rw [hz] at q
    exact ⟨by simpa using q.1, q.2⟩
end Site
def maxV (x y : Int32) : Int32 := if x < y then y else x
theorem ef_rmMax (m : MethodId) (x0 : Int32) (x1 : Int32) : entryFrame m #[(.int x0), (.int x1)] 2 = mkF m 0 #[iv x0, iv x1] [] := by first | (simp [entryFrame, mkF, argsToLocals, Value.category]; done) | rfl
def QrmMax (p1 p2 : Int32) (h0 : Heap) (n0 : Nat) (v : Option Value) (h : Heap) (L : List Loc) : Prop := v = some (.int (maxV p1 p2)) ∧ Fr n0 L ∧ h = h0
theorem d5_0 : decode jdk_29_method_65_code 0 = .ok (.iload_n 0, 1) := by decide +kernel
theorem d5_1 : decode jdk_29_method_65_code 1 = .ok (.iload_n 1, 1) := by decide +kernel
theorem d5_2 : decode jdk_29_method_65_code 2 = .ok (.if_icmp .lt 7, 3) := by decide +kernel
theorem d5_9 : decode jdk_29_method_65_code 9 = .ok (.iload_n 1, 1) := by decide +kernel
theorem d5_10 : decode jdk_29_method_65_code 10 = .ok (.ireturn, 1) := by decide +kernel
theorem d5_5 : decode jdk_29_method_65_code 5 = .ok (.iload_n 0, 1) := by decide +kernel
theorem d5_6 : decode jdk_29_method_65_code 6 = .ok (.goto 4, 3) := by decide +kernel
set_option maxRecDepth 65536 in
set_option maxHeartbeats 40000000 in
theorem rmMax (l : Launch) (Z : State) (a0 : Array Value) (hw : ∀ d ∈ tables_1, d.before a0 Z = true) (ws : List Jvm.Cond) (p1 : Int32) (p2 : Int32) (h0 : Heap) (n0 : Nat) (Z0 : n0 ≤ h0.size) :
    MetFree l (⟨"java/lang/Math", "max", "(II)I"⟩ : MethodName) (head1 (Jvm.Cond.code (⟨"java/lang/Math", "max", "(II)I"⟩ : MethodName) jdk_29_method_65_code 2 (some .int) :: ws) ({ frames := 0, cells := 0, slots := 0, locals := 0 } : Room)) (fun a U => a = #[(.int p1), (.int p2)] ∧ Z.Warmed39 U.vm ∧ U.heap = h0) (fun _ _ _ _ _ => True) (fun _ U o U' => ∃ v L, o = .returned v ∧ QrmMax p1 p2 h0 n0 v U'.heap L ∧ FrameEnd U o U' L ({ frames := 0, cells := 0, slots := 0, locals := 0 } : Room).cells ({ frames := 0, cells := 0, slots := 0, locals := 0 } : Room).slots) := by
  refine MetFree.of_bodySF (Jvm.Free.JP.mathPlain rfl (by decide +kernel)) hisR ?_
  intro p e s m args below meth c s₁ Bd hml0 hP hK
  obtain ⟨rfl, hZ, hh⟩ := hP
  have hx := Bd.exec
  have hby := Bd.bytes
  have hlk : meth.locks = false := BodyLoose.notSynchronized Bd
  have hml : c.maxLocals = 2 := hml0
  have hown : s.vm.findClass "java/lang/Math" = some m.cls := findClass_of_methodNamed Bd.named
  have hnm := (name_of_methodNamed Bd.named Bd.method).1
  have X0 : Stand p l e ({ frames := 0, cells := 0, slots := 0, locals := 0 } : Room) s m #[(.int p1), (.int p2)] below meth c s₁ [] 0 0 := Stand.of_body Bd
  have e0 : s₁.heap = h0 := by rw [← hh, Bd.state]; rfl
  have N0 := Fr.nil n0
  have hret := Bd.returns
  show Goes p e below (fun o U' => ∃ v L, o = .returned v ∧ QrmMax p1 p2 h0 n0 v U'.heap L ∧ FrameEnd s o U' L ({ frames := 0, cells := 0, slots := 0, locals := 0 } : Room).cells ({ frames := 0, cells := 0, slots := 0, locals := 0 } : Room).slots) (s₁.setTop (entryFrame m #[(.int p1), (.int p2)] 2))
  refine Goes.step ?_ (fun _ k => castTop (ef_rmMax m p1 p2) k)
  show Goes p e below _ (sF s₁ m 0 #[iv p1, iv p2] [])
  refine Goes.step ?_ (fun _ k => XS.iloadN X0.here hx rfl (hb hby d5_0) rfl  k)
  show Goes p e below _ (sF s₁ m 1 #[iv p1, iv p2] [(.int p1)])
  refine Goes.step ?_ (fun _ k => XS.iloadN X0.here hx rfl (hb hby d5_1) rfl  k)
  show Goes p e below _ (sF s₁ m 2 #[iv p1, iv p2] [(.int p2), (.int p1)])
  by_cases hc2_1 : p1 < p2
  · refine Goes.step ?_ (fun _ k => XS.icmpYes X0.here hx rfl (pc0 := 2) (pc' := 9) rfl (hb hby d5_2) rfl (tlt hc2_1).1 (by decide) (by decide) k)
    show Goes p e below _ (sF s₁ m 9 #[iv p1, iv p2] [])
    refine Goes.step ?_ (fun _ k => XS.iloadN X0.here hx rfl (hb hby d5_9) rfl  k)
    show Goes p e below _ (sF s₁ m 10 #[iv p1, iv p2] [(.int p2)])
    refine own_out X0 hx hlk hret rfl (Or.inl ⟨rfl, by simp, _, rfl⟩) (hb hby d5_10) ?_ (by decide) (by decide)
    show QrmMax p1 p2 h0 n0 _ s₁.heap _
    rw [e0]
    exact ⟨by simp [maxV, hc2_1], N0, rfl⟩
  · refine Goes.step ?_ (fun _ k => XS.icmpNo X0.here hx rfl (hb hby d5_2) rfl (flt hc2_1).1 k)
    show Goes p e below _ (sF s₁ m 5 #[iv p1, iv p2] [])
    refine Goes.step ?_ (fun _ k => XS.iloadN X0.here hx rfl (hb hby d5_5) rfl  k)
    show Goes p e below _ (sF s₁ m 6 #[iv p1, iv p2] [(.int p1)])
    refine Goes.step ?_ (fun _ k => XS.goto X0.here hx rfl (pc0 := 6) (pc' := 10) rfl (hb hby d5_6) (by decide) (by decide) k)
    show Goes p e below _ (sF s₁ m 10 #[iv p1, iv p2] [(.int p1)])
    refine own_out X0 hx hlk hret rfl (Or.inl ⟨rfl, by simp, _, rfl⟩) (hb hby d5_10) ?_ (by decide) (by decide)
    show QrmMax p1 p2 h0 n0 _ s₁.heap _
    rw [e0]
    exact ⟨by simp [maxV, hc2_1], N0, rfl⟩
theorem pn_com_example_borderline_borderline_Comparisons : plainName "com/example/borderline/borderline/Comparisons" = true := by first | (simp [plainName, overriddenIn]; done) | decide +kernel
theorem ef_rmNew (m : MethodId) (x0 : Addr) : entryFrame m #[(.ref x0)] 1 = mkF m 0 #[rv x0] [] := by first | (simp [entryFrame, mkF, argsToLocals, Value.category]; done) | rfl
def QNum (h0 : Heap) (n0 : Nat) (v : Option Value) (h : Heap) (L : List Loc) : Prop := v = none ∧ Fr n0 L ∧ h = h0
theorem d1_0 : decode prog_16_method_1_code 0 = .ok (.aload_n 0, 1) := by decide +kernel
theorem d1_1 : decode prog_16_method_1_code 1 = .ok (.invokespecial 1, 3) := by decide +kernel
theorem d1_4 : decode prog_16_method_1_code 4 = .ok (.return_, 1) := by decide +kernel
set_option maxRecDepth 65536 in
set_option maxHeartbeats 40000000 in
theorem rmNew (l : Launch) (Z : State) (a0 : Array Value) (hw : ∀ d ∈ tables_1, d.before a0 Z = true) (ws : List Jvm.Cond) (a1 : Addr) (h0 : Heap) (n0 : Nat) (Z0 : n0 ≤ h0.size) :
    MetFree l (⟨"com/example/borderline/borderline/Comparisons", "<init>", "()V"⟩ : MethodName) (head1 (Jvm.Cond.code (⟨"com/example/borderline/borderline/Comparisons", "<init>", "()V"⟩ : MethodName) prog_16_method_1_code 1 none :: ws) ({ frames := 1, cells := 0, slots := 0, locals := 12 } : Room)) (fun a U => a = #[(.ref a1)] ∧ Z.Warmed39 U.vm ∧ U.heap = h0) (fun _ _ _ _ _ => True) (fun _ U o U' => ∃ v L, o = .returned v ∧ QNum h0 n0 v U'.heap L ∧ FrameEnd U o U' L ({ frames := 1, cells := 0, slots := 0, locals := 12 } : Room).cells ({ frames := 1, cells := 0, slots := 0, locals := 12 } : Room).slots) := by
  refine MetFree.of_bodySF (plainFor_of_name pn_com_example_borderline_borderline_Comparisons) hisR ?_
  intro p e s m args below meth c s₁ Bd hml0 hP hK
  obtain ⟨rfl, hZ, hh⟩ := hP
  have hx := Bd.exec
  have hby := Bd.bytes
  have hlk : meth.locks = false := BodyLoose.notSynchronized Bd
  have hml : c.maxLocals = 1 := hml0
  have hown : s.vm.findClass "com/example/borderline/borderline/Comparisons" = some m.cls := findClass_of_methodNamed Bd.named
  have hnm := (name_of_methodNamed Bd.named Bd.method).1
  have X0 : Stand p l e ({ frames := 1, cells := 0, slots := 0, locals := 12 } : Room) s m #[(.ref a1)] below meth c s₁ [] 0 0 := Stand.of_body Bd
  have e0 : s₁.heap = h0 := by rw [← hh, Bd.state]; rfl
  have N0 := Fr.nil n0
  have hret := Bd.returns
  show Goes p e below (fun o U' => ∃ v L, o = .returned v ∧ QNum h0 n0 v U'.heap L ∧ FrameEnd s o U' L ({ frames := 1, cells := 0, slots := 0, locals := 12 } : Room).cells ({ frames := 1, cells := 0, slots := 0, locals := 12 } : Room).slots) (s₁.setTop (entryFrame m #[(.ref a1)] 1))
  refine Goes.step ?_ (fun _ k => castTop (ef_rmNew m a1) k)
  show Goes p e below _ (sF s₁ m 0 #[rv a1] [])
  refine Goes.step ?_ (fun _ k => XS.aloadN X0.here hx rfl (hb hby d1_0) rfl rfl k)
  show Goes p e below _ (sF s₁ m 1 #[rv a1] [(.ref a1)])
  obtain ⟨T1, X1, e1, st1⟩ := initO X0 hx hZ hown (hw _ (List.mem_of_getElem? (i := 8) rfl)) (hw _ (List.mem_of_getElem? (i := 9) rfl)) (hw _ (List.mem_of_getElem? (i := 10) rfl)) e0 (g := (mkF m 1 #[rv a1] [(.ref a1)])) rfl (by rw [hml]; rfl) rfl (hb hby d1_1) (by decide) (W := 0) (by show 2 * 0 + _ ≤ _; exact Nat.le_of_eq rfl) (by decide)
  refine Goes.step ?_ st1
  show Goes p e below _ (sF T1 m 4 #[rv a1] [])
  refine own_outV X1 hx hlk hret (hb hby d1_4) ?_ (by decide) (by decide)
  show QNum h0 n0 _ T1.heap _
  rw [e1]
  exact ⟨rfl, N0, rfl⟩
theorem ef_rmCount (m : MethodId) (x0 : Addr) : entryFrame m #[(.ref x0)] 1 = mkF m 0 #[rv x0] [] := by first | (simp [entryFrame, mkF, argsToLocals, Value.category]; done) | rfl
def QLong (q : Int64) (h0 : Heap) (n0 : Nat) (v : Option Value) (h : Heap) (L : List Loc) : Prop := v = some (.long q) ∧ Fr n0 L ∧ h = h0
theorem d4_0 : decode prog_16_method_3_code 0 = .ok (.aload_n 0, 1) := by decide +kernel
theorem d4_1 : decode prog_16_method_3_code 1 = .ok (.getfield 7, 3) := by decide +kernel
theorem d4_4 : decode prog_16_method_3_code 4 = .ok (.lreturn, 1) := by decide +kernel
set_option maxRecDepth 65536 in
set_option maxHeartbeats 40000000 in
theorem rmCount (l : Launch) (Z : State) (a0 : Array Value) (hw : ∀ d ∈ tables_1, d.before a0 Z = true) (ws : List Jvm.Cond) (a1 : Addr) (q : Int64) (h0 : Heap) (n0 : Nat) (Z0 : n0 ≤ h0.size) (F_count : Fld Z h0 a1 "com/example/borderline/borderline/Comparisons" "count" "J" (.long q)) :
    MetFree l (⟨"com/example/borderline/borderline/Comparisons", "count", "()J"⟩ : MethodName) (head1 (Jvm.Cond.code (⟨"com/example/borderline/borderline/Comparisons", "count", "()J"⟩ : MethodName) prog_16_method_3_code 1 (some .long) :: ws) ({ frames := 0, cells := 0, slots := 0, locals := 0 } : Room)) (fun a U => a = #[(.ref a1)] ∧ Z.Warmed39 U.vm ∧ U.heap = h0) (fun _ _ _ _ _ => True) (fun _ U o U' => ∃ v L, o = .returned v ∧ QLong q h0 n0 v U'.heap L ∧ FrameEnd U o U' L ({ frames := 0, cells := 0, slots := 0, locals := 0 } : Room).cells ({ frames := 0, cells := 0, slots := 0, locals := 0 } : Room).slots) := by
  refine MetFree.of_bodySF (plainFor_of_name pn_com_example_borderline_borderline_Comparisons) hisR ?_
  intro p e s m args below meth c s₁ Bd hml0 hP hK
  obtain ⟨rfl, hZ, hh⟩ := hP
  have hx := Bd.exec
  have hby := Bd.bytes
  have hlk : meth.locks = false := BodyLoose.notSynchronized Bd
  have hml : c.maxLocals = 1 := hml0
  have hown : s.vm.findClass "com/example/borderline/borderline/Comparisons" = some m.cls := findClass_of_methodNamed Bd.named
  have hnm := (name_of_methodNamed Bd.named Bd.method).1
  have X0 : Stand p l e ({ frames := 0, cells := 0, slots := 0, locals := 0 } : Room) s m #[(.ref a1)] below meth c s₁ [] 0 0 := Stand.of_body Bd
  have e0 : s₁.heap = h0 := by rw [← hh, Bd.state]; rfl
  have N0 := Fr.nil n0
  have hret := Bd.returns
  show Goes p e below (fun o U' => ∃ v L, o = .returned v ∧ QLong q h0 n0 v U'.heap L ∧ FrameEnd s o U' L ({ frames := 0, cells := 0, slots := 0, locals := 0 } : Room).cells ({ frames := 0, cells := 0, slots := 0, locals := 0 } : Room).slots) (s₁.setTop (entryFrame m #[(.ref a1)] 1))
  refine Goes.step ?_ (fun _ k => castTop (ef_rmCount m a1) k)
  show Goes p e below _ (sF s₁ m 0 #[rv a1] [])
  refine Goes.step ?_ (fun _ k => XS.aloadN X0.here hx rfl (hb hby d4_0) rfl rfl k)
  show Goes p e below _ (sF s₁ m 1 #[rv a1] [(.ref a1)])
  obtain ⟨T1, X1, e1, st1⟩ := getF X0 hx hZ hown (host := "") (Or.inl (hw _ (List.mem_of_getElem? (i := 21) rfl))) Via.refl e0 F_count (g := (mkF m 1 #[rv a1] [(.ref a1)])) rfl rfl (hb hby d4_1)
  refine Goes.step ?_ st1
  show Goes p e below _ (sF T1 m 4 #[rv a1] [(.long q)])
  refine own_out X1 hx hlk hret rfl (Or.inr (Or.inl ⟨rfl, rfl, _, rfl⟩)) (hb hby d4_4) ?_ (by decide) (by decide)
  show QLong q h0 n0 _ T1.heap _
  rw [e1]
  exact ⟨rfl, N0, rfl⟩
theorem ef_rmAdd (m : MethodId) (x0 : Addr) (x1 : Int64) : entryFrame m #[(.ref x0), (.long x1)] 3 = mkF m 0 #[rv x0, .val (.long x1), .second] [] := by first | (simp [entryFrame, mkF, argsToLocals, Value.category]; done) | rfl
def QAdd (Z : State) (a1 : Addr) (q q2 : Int64) (h0 : Heap) (n0 : Nat) (v : Option Value) (h : Heap) (L : List Loc) : Prop := v = none ∧ Fr n0 L ∧ Keep h0 h [a1] ∧ Fld Z h a1 "com/example/borderline/borderline/Comparisons" "count" "J" (.long (q + q2))
theorem d9_0 : decode prog_16_method_2_code 0 = .ok (.aload_n 0, 1) := by decide +kernel
theorem d9_1 : decode prog_16_method_2_code 1 = .ok (.dup, 1) := by decide +kernel
theorem d9_2 : decode prog_16_method_2_code 2 = .ok (.getfield 7, 3) := by decide +kernel
theorem d9_5 : decode prog_16_method_2_code 5 = .ok (.lload_n 1, 1) := by decide +kernel
theorem d9_6 : decode prog_16_method_2_code 6 = .ok (.ladd, 1) := by decide +kernel
theorem d9_7 : decode prog_16_method_2_code 7 = .ok (.putfield 7, 3) := by decide +kernel
theorem d9_10 : decode prog_16_method_2_code 10 = .ok (.return_, 1) := by decide +kernel
set_option maxRecDepth 65536 in
set_option maxHeartbeats 40000000 in
theorem rmAdd (l : Launch) (Z : State) (a0 : Array Value) (hw : ∀ d ∈ tables_1, d.before a0 Z = true) (ws : List Jvm.Cond) (a1 : Addr) (q2 : Int64) (q : Int64) (h0 : Heap) (n0 : Nat) (Z0 : n0 ≤ h0.size) (F_count : Fld Z h0 a1 "com/example/borderline/borderline/Comparisons" "count" "J" (.long q)) (E_a1 : Exa Z h0 a1 "com/example/borderline/borderline/Comparisons") (g_a1 : n0 ≤ a1) :
    MetFree l (⟨"com/example/borderline/borderline/Comparisons", "add", "(J)V"⟩ : MethodName) (head1 (Jvm.Cond.code (⟨"com/example/borderline/borderline/Comparisons", "add", "(J)V"⟩ : MethodName) prog_16_method_2_code 3 none :: ws) ({ frames := 0, cells := 0, slots := 0, locals := 0 } : Room)) (fun a U => a = #[(.ref a1), (.long q2)] ∧ Z.Warmed39 U.vm ∧ U.heap = h0) (fun _ _ _ _ _ => True) (fun _ U o U' => ∃ v L, o = .returned v ∧ QAdd Z a1 q q2 h0 n0 v U'.heap L ∧ FrameEnd U o U' L ({ frames := 0, cells := 0, slots := 0, locals := 0 } : Room).cells ({ frames := 0, cells := 0, slots := 0, locals := 0 } : Room).slots) := by
  refine MetFree.of_bodySF (plainFor_of_name pn_com_example_borderline_borderline_Comparisons) hisR ?_
  intro p e s m args below meth c s₁ Bd hml0 hP hK
  obtain ⟨rfl, hZ, hh⟩ := hP
  have hx := Bd.exec
  have hby := Bd.bytes
  have hlk : meth.locks = false := BodyLoose.notSynchronized Bd
  have hml : c.maxLocals = 3 := hml0
  have hown : s.vm.findClass "com/example/borderline/borderline/Comparisons" = some m.cls := findClass_of_methodNamed Bd.named
  have hnm := (name_of_methodNamed Bd.named Bd.method).1
  have X0 : Stand p l e ({ frames := 0, cells := 0, slots := 0, locals := 0 } : Room) s m #[(.ref a1), (.long q2)] below meth c s₁ [] 0 0 := Stand.of_body Bd
  have e0 : s₁.heap = h0 := by rw [← hh, Bd.state]; rfl
  have N0 := Fr.nil n0
  have hret := Bd.returns
  show Goes p e below (fun o U' => ∃ v L, o = .returned v ∧ QAdd Z a1 q q2 h0 n0 v U'.heap L ∧ FrameEnd s o U' L ({ frames := 0, cells := 0, slots := 0, locals := 0 } : Room).cells ({ frames := 0, cells := 0, slots := 0, locals := 0 } : Room).slots) (s₁.setTop (entryFrame m #[(.ref a1), (.long q2)] 3))
  refine Goes.step ?_ (fun _ k => castTop (ef_rmAdd m a1 q2) k)
  show Goes p e below _ (sF s₁ m 0 #[rv a1, .val (.long q2), .second] [])
  refine Goes.step ?_ (fun _ k => XS.aloadN X0.here hx rfl (hb hby d9_0) rfl rfl k)
  show Goes p e below _ (sF s₁ m 1 #[rv a1, .val (.long q2), .second] [(.ref a1)])
  refine Goes.step ?_ (fun _ k => XS.dup X0.here hx rfl (hb hby d9_1) rfl rfl k)
  show Goes p e below _ (sF s₁ m 2 #[rv a1, .val (.long q2), .second] [(.ref a1), (.ref a1)])
  obtain ⟨T1, X1, e1, st1⟩ := getF X0 hx hZ hown (host := "") (Or.inl (hw _ (List.mem_of_getElem? (i := 21) rfl))) Via.refl e0 F_count (g := (mkF m 2 #[rv a1, .val (.long q2), .second] [(.ref a1), (.ref a1)])) rfl rfl (hb hby d9_2)
  refine Goes.step ?_ st1
  show Goes p e below _ (sF T1 m 5 #[rv a1, .val (.long q2), .second] [(.long q), (.ref a1)])
  refine Goes.step ?_ (fun _ k => XS.lloadN X1.here hx rfl (hb hby d9_5) rfl  k)
  show Goes p e below _ (sF T1 m 6 #[rv a1, .val (.long q2), .second] [(.long q2), (.long q), (.ref a1)])
  refine Goes.step ?_ (fun _ k => XS.ladd X1.here hx rfl (hb hby d9_6) rfl k)
  show Goes p e below _ (sF T1 m 7 #[rv a1, .val (.long q2), .second] [(.long (q + q2)), (.ref a1)])
  obtain ⟨T2, h2, X2, e2, W2, st2⟩ := putF X1 hx hZ hown (host := "") (Or.inl (hw _ (List.mem_of_getElem? (i := 21) rfl))) Via.refl e1 F_count E_a1 (Or.inl (hw _ (List.mem_of_getElem? (i := 22) rfl))) (hw _ (List.mem_of_getElem? (i := 3) rfl)) (ty := .long) (by decide) rfl rfl (g := (mkF m 7 #[rv a1, .val (.long q2), .second] [(.long (q + q2)), (.ref a1)])) rfl rfl (hb hby d9_7)
  have Fw2 := F_count.same W2
  have Zs2 : n0 ≤ h2.size := Nat.le_trans Z0 (Keep.of_wr W2).1
  have N2 := Fr.snoc X2 N0 g_a1
  refine Goes.step ?_ st2
  show Goes p e below _ (sF T2 m 10 #[rv a1, .val (.long q2), .second] [])
  refine own_outV X2 hx hlk hret (hb hby d9_10) ?_ (by decide) (by decide)
  show QAdd Z a1 q q2 h0 n0 _ T2.heap _
  rw [e2]
  exact ⟨rfl, N2, (Keep.refl _ _).wr W2 (Or.inl (List.mem_of_getElem? (i := 0) rfl)), Fw2⟩
theorem pn_com_example_borderline_borderline_BorderTable : plainName "com/example/borderline/borderline/BorderTable" = true := by first | (simp [plainName, overriddenIn]; done) | decide +kernel
theorem ef_rmLam (m : MethodId) (x0 : Addr) (x1 : Int32) (x2 : Int32) : entryFrame m #[(.ref x0), (.int x1), (.int x2)] 3 = mkF m 0 #[rv x0, iv x1, iv x2] [] := by first | (simp [entryFrame, mkF, argsToLocals, Value.category]; done) | rfl
def QInt (r : Int32) (h0 : Heap) (n0 : Nat) (v : Option Value) (h : Heap) (L : List Loc) : Prop := v = some (.int r) ∧ Fr n0 L ∧ h = h0
theorem d8_0 : decode prog_7_method_10_code 0 = .ok (.aload_n 0, 1) := by decide +kernel
theorem d8_1 : decode prog_7_method_10_code 1 = .ok (.iload_n 1, 1) := by decide +kernel
theorem d8_2 : decode prog_7_method_10_code 2 = .ok (.baload, 1) := by decide +kernel
theorem d8_3 : decode prog_7_method_10_code 3 = .ok (.aload_n 0, 1) := by decide +kernel
theorem d8_4 : decode prog_7_method_10_code 4 = .ok (.iload_n 2, 1) := by decide +kernel
theorem d8_5 : decode prog_7_method_10_code 5 = .ok (.baload, 1) := by decide +kernel
theorem d8_6 : decode prog_7_method_10_code 6 = .ok (.if_icmp .ne 7, 3) := by decide +kernel
theorem d8_9 : decode prog_7_method_10_code 9 = .ok (.iconst 1, 1) := by decide +kernel
theorem d8_10 : decode prog_7_method_10_code 10 = .ok (.goto 4, 3) := by decide +kernel
theorem d8_14 : decode prog_7_method_10_code 14 = .ok (.ireturn, 1) := by decide +kernel
theorem d8_13 : decode prog_7_method_10_code 13 = .ok (.iconst 0, 1) := by decide +kernel
set_option maxRecDepth 65536 in
set_option maxHeartbeats 40000000 in
theorem rmLam (l : Launch) (Z : State) (a0 : Array Value) (hw : ∀ d ∈ tables_1, d.before a0 Z = true) (ws : List Jvm.Cond) (a1 : Addr) (i : Int32) (j : Int32) (ka : ClassId) (z : Int32) (pl : List Value) (bi : Int32) (bj : Int32) (r : Int32) (h0 : Heap) (n0 : Nat) (Z0 : n0 ≤ h0.size) (V_a1 : Arv Z h0 a1 ka .byte z pl (.int (0 : Int32))) (hi : ¬ i < 0 ∧ i < z) (hj : ¬ j < 0 ∧ j < z) (ei : pl.getD i.toNatClampNeg (.int (0 : Int32)) = .int bi) (ej : pl.getD j.toNatClampNeg (.int (0 : Int32)) = .int bj) (hr : (if bi = bj then (1 : Int32) else 0) = r) :
    MetFree l (⟨"com/example/borderline/borderline/BorderTable", "lambda$symbolsOf$0", "([BII)Z"⟩ : MethodName) (head1 (Jvm.Cond.code (⟨"com/example/borderline/borderline/BorderTable", "lambda$symbolsOf$0", "([BII)Z"⟩ : MethodName) prog_7_method_10_code 3 (some .boolean) :: ws) ({ frames := 0, cells := 0, slots := 0, locals := 0 } : Room)) (fun a U => a = #[(.ref a1), (.int i), (.int j)] ∧ Z.Warmed39 U.vm ∧ U.heap = h0) (fun _ _ _ _ _ => True) (fun _ U o U' => ∃ v L, o = .returned v ∧ QInt r h0 n0 v U'.heap L ∧ FrameEnd U o U' L ({ frames := 0, cells := 0, slots := 0, locals := 0 } : Room).cells ({ frames := 0, cells := 0, slots := 0, locals := 0 } : Room).slots) := by
  refine MetFree.of_bodySF (plainFor_of_name pn_com_example_borderline_borderline_BorderTable) hisR ?_
  intro p e s m args below meth c s₁ Bd hml0 hP hK
  obtain ⟨rfl, hZ, hh⟩ := hP
  have hx := Bd.exec
  have hby := Bd.bytes
  have hlk : meth.locks = false := BodyLoose.notSynchronized Bd
  have hml : c.maxLocals = 3 := hml0
  have hown : s.vm.findClass "com/example/borderline/borderline/BorderTable" = some m.cls := findClass_of_methodNamed Bd.named
  have hnm := (name_of_methodNamed Bd.named Bd.method).1
  have X0 : Stand p l e ({ frames := 0, cells := 0, slots := 0, locals := 0 } : Room) s m #[(.ref a1), (.int i), (.int j)] below meth c s₁ [] 0 0 := Stand.of_body Bd
  have e0 : s₁.heap = h0 := by rw [← hh, Bd.state]; rfl
  have N0 := Fr.nil n0
  have hret := Bd.returns
  show Goes p e below (fun o U' => ∃ v L, o = .returned v ∧ QInt r h0 n0 v U'.heap L ∧ FrameEnd s o U' L ({ frames := 0, cells := 0, slots := 0, locals := 0 } : Room).cells ({ frames := 0, cells := 0, slots := 0, locals := 0 } : Room).slots) (s₁.setTop (entryFrame m #[(.ref a1), (.int i), (.int j)] 3))
  refine Goes.step ?_ (fun _ k => castTop (ef_rmLam m a1 i j) k)
  show Goes p e below _ (sF s₁ m 0 #[rv a1, iv i, iv j] [])
  refine Goes.step ?_ (fun _ k => XS.aloadN X0.here hx rfl (hb hby d8_0) rfl rfl k)
  show Goes p e below _ (sF s₁ m 1 #[rv a1, iv i, iv j] [(.ref a1)])
  refine Goes.step ?_ (fun _ k => XS.iloadN X0.here hx rfl (hb hby d8_1) rfl  k)
  show Goes p e below _ (sF s₁ m 2 #[rv a1, iv i, iv j] [(.int i), (.ref a1)])
  obtain ⟨cl1, Ar1, q1, S1, N_1, H1, G1⟩ := id V_a1
  have hin2 : ¬ (i < 0 ∨ cl1.slots.size ≤ (i).toNatClampNeg) := inb_of S1 hi
  have hat2 : cl1.slots[(i).toNatClampNeg]? = some (.int bi) := H1.at hin2 ei
  refine Goes.step ?_ (fun _ k => X0.baloadBytes hx (j := i) (v := (.int bi)) (by rw [e0]; exact Ar1.1) (State.isArrayOf_alike hZ.alike Ar1.2.1) Ar1.2.2 hin2 hat2 (g := (mkF m 2 #[rv a1, iv i, iv j] [(.int i), (.ref a1)])) rfl rfl (hb hby d8_2) _ k)
  show Goes p e below _ (sF s₁ m 3 #[rv a1, iv i, iv j] [(.int bi)])
  refine Goes.step ?_ (fun _ k => XS.aloadN X0.here hx rfl (hb hby d8_3) rfl rfl k)
  show Goes p e below _ (sF s₁ m 4 #[rv a1, iv i, iv j] [(.ref a1), (.int bi)])
  refine Goes.step ?_ (fun _ k => XS.iloadN X0.here hx rfl (hb hby d8_4) rfl  k)
  show Goes p e below _ (sF s₁ m 5 #[rv a1, iv i, iv j] [(.int j), (.ref a1), (.int bi)])
  obtain ⟨cl3, Ar3, q3, S3, N_3, H3, G3⟩ := id V_a1
  have hin4 : ¬ (j < 0 ∨ cl3.slots.size ≤ (j).toNatClampNeg) := inb_of S3 hj
  have hat4 : cl3.slots[(j).toNatClampNeg]? = some (.int bj) := H3.at hin4 ej
  refine Goes.step ?_ (fun _ k => X0.baloadBytes hx (j := j) (v := (.int bj)) (by rw [e0]; exact Ar3.1) (State.isArrayOf_alike hZ.alike Ar3.2.1) Ar3.2.2 hin4 hat4 (g := (mkF m 5 #[rv a1, iv i, iv j] [(.int j), (.ref a1), (.int bi)])) rfl rfl (hb hby d8_5) _ k)
  show Goes p e below _ (sF s₁ m 6 #[rv a1, iv i, iv j] [(.int bj), (.int bi)])
  by_cases hc6_5 : bi = bj
  · refine Goes.step ?_ (fun _ k => XS.icmpNo X0.here hx rfl (hb hby d8_6) rfl (teq hc6_5).2 k)
    show Goes p e below _ (sF s₁ m 9 #[rv a1, iv i, iv j] [])
    refine Goes.step ?_ (fun _ k => XS.iconst X0.here hx rfl (hb hby d8_9) k)
    show Goes p e below _ (sF s₁ m 10 #[rv a1, iv i, iv j] [(.int (1 : Int32))])
    refine Goes.step ?_ (fun _ k => XS.goto X0.here hx rfl (pc0 := 10) (pc' := 14) rfl (hb hby d8_10) (by decide) (by decide) k)
    show Goes p e below _ (sF s₁ m 14 #[rv a1, iv i, iv j] [(.int (1 : Int32))])
    refine own_out X0 hx hlk hret rfl (Or.inl ⟨rfl, by simp, _, rfl⟩) (hb hby d8_14) ?_ (by decide) (by decide)
    show QInt r h0 n0 _ s₁.heap _
    rw [e0]
    exact ⟨by rw [← hr]; simp [hc6_5], N0, rfl⟩
  · refine Goes.step ?_ (fun _ k => XS.icmpYes X0.here hx rfl (pc0 := 6) (pc' := 13) rfl (hb hby d8_6) rfl (feq hc6_5).2 (by decide) (by decide) k)
    show Goes p e below _ (sF s₁ m 13 #[rv a1, iv i, iv j] [])
    refine Goes.step ?_ (fun _ k => XS.iconst X0.here hx rfl (hb hby d8_13) k)
    show Goes p e below _ (sF s₁ m 14 #[rv a1, iv i, iv j] [(.int (0 : Int32))])
    refine own_out X0 hx hlk hret rfl (Or.inl ⟨rfl, by simp, _, rfl⟩) (hb hby d8_14) ?_ (by decide) (by decide)
    show QInt r h0 n0 _ s₁.heap _
    rw [e0]
    exact ⟨by rw [← hr]; simp [hc6_5], N0, rfl⟩
theorem own_met {l : Launch} {y : MethodName} {bytes : ByteArray} {maxL : Nat} {ret : Option FieldType} {Z : State} {as' : Array Value} {r : Int32} {h : Heap} {n0 : Nat}
    (hM : MetFree l y (head1 [Cond.code y bytes maxL ret] ({ frames := 0, cells := 0, slots := 0, locals := 0 } : Room)) (fun a U => a = as' ∧ Z.Warmed39 U.vm ∧ U.heap = h) (fun _ _ _ _ _ => True) (fun _ U o U' => ∃ v L, o = .returned v ∧ QInt r h n0 v U'.heap L ∧ FrameEnd U o U' L (({ frames := 0, cells := 0, slots := 0, locals := 0 } : Room)).cells (({ frames := 0, cells := 0, slots := 0, locals := 0 } : Room)).slots)) :
    Met l y [Cond.code y bytes maxL ret] ({ frames := 0, cells := 0, slots := 0, locals := 0 } : Room) (fun a U => a = as' ∧ Z.Warmed39 U.vm ∧ U.heap = h) (fun _ _ o t => o = .returned (some (.int r)) ∧ t.heap = h) 0 0 (fun b => n0 ≤ b) := by
  intro p e ha hc hk s m args below hf happ hP hK
  obtain ⟨n, o, h1, h2, h3, v, L, rfl, ⟨rfl, hN, hh⟩, hF⟩ := hM p e ha hc hk s m args below hf happ hP hK
  exact ⟨n, _, h1, h2, h3, ⟨rfl, hh⟩, L, hF, fun q hq => hN q hq⟩
theorem pd__28II_29Z : parseMethodDescriptor "(II)Z" = some ⟨[.int, .int], some .boolean⟩ := by decide +kernel
theorem pd__28_5bBII_29Z : parseMethodDescriptor "([BII)Z" = some ⟨[(.array .byte), .int, .int], some .boolean⟩ := by decide +kernel
theorem own_same {p : Program} {l : Launch} {e : Env} {R : Room} {s : State} {m : MethodId} {args : Array Value} {below : List Frame} {meth : Method} {c : Code} {T : State} {locs : List Loc} {cells slots : Nat} {Z : State} {a0 : Array Value} {h : Heap} {n0 : Nat} {cK : ClassId}
    (X : Stand p l e R s m args below meth c T locs cells slots) (hx : p.tables.exec = Jvm.exec) (hZ : Z.Warmed39 s.vm) (hw : ∀ d ∈ tables_1, d.before a0 Z = true) (hown : s.vm.findClass "com/example/borderline/borderline/BorderTable" = some m.cls) (hmd : Jvm.LamKit.Made s "com/example/borderline/borderline/BorderTable" sgm cK) (eT : T.heap = h) (N : Fr n0 locs) (Z0 : n0 ≤ h.size)
    {sy pa : Addr} {kp : ClassId} {z i j bi bj r : Int32} {pl : List Value} (hsy : h[sy]? = some ({ cls := cK, slots := #[.ref pa], vm := .none } : Cell)) (V : Arv Z h pa kp .byte z pl (.int (0 : Int32))) (hi : ¬ i < 0 ∧ i < z) (hj : ¬ j < 0 ∧ j < z) (ei : pl.getD i.toNatClampNeg (.int (0 : Int32)) = .int bi) (ej : pl.getD j.toNatClampNeg (.int (0 : Int32)) = .int bj) (hr : (if bi = bj then (1 : Int32) else 0) = r) (hnb : narrow .boolean (.int r) = .int r)
    {g : JFrame} (hg : g.method = m) (hsize : g.locals.size = c.maxLocals) (hst : g.stack = [.int j, .int i, .ref sy]) (hmr : g.monitorRoom = 0) (hd : decode c.code g.pc = .ok (.invokeinterface 35 3, 5)) (hf : 2 ≤ R.frames) (hl : 28 ≤ R.locals) (hc : cells ≤ R.cells) (hs : slots ≤ R.slots) :
    ∃ T' L, Stand p l e R s m args below meth c T' L cells slots ∧ T'.heap = h ∧ Fr n0 L ∧ ∀ target, Steps p.tables e below (T'.setTop { g with pc := g.pc + 5, stack := [.int r] }) target → Steps p.tables e below (T.setTop g) target := by
  obtain ⟨w, stt, t, T', L, X', hL, eh, es, hq, st⟩ := Jvm.LamKit.callLamS X hx (own := "com/example/borderline/borderline/BorderTable") (host := "com/example/borderline/borderline/BorderTable") (index := 35) (count := 3) (xi := xiN) (y := lamN) (σ := sgm) (own_met (n0 := n0) (rmLam l Z a0 hw [] pa i j kp z pl bi bj r h n0 Z0 V hi hj ei ej hr)) (fun _ _ _ _ h => h) rfl rfl
    (fun w hw' a' U hU => by rw [List.mem_singleton.mp hw']; exact mvT (wtrans hZ hU) (hw _ (List.mem_of_getElem? (i := 41) rfl))) (List.mem_singleton.mpr rfl) hown (mvT hZ (hw _ (List.mem_of_getElem? (i := 37) rfl))) (mvT hZ (hw _ (List.mem_of_getElem? (i := 38) rfl))) (mvT hZ (hw _ (List.mem_of_getElem? (i := 39) rfl))) (mvT hZ (hw _ (List.mem_of_getElem? (i := 41) rfl))) (mvT hZ (hw _ (List.mem_of_getElem? (i := 40) rfl))) (mvT hZ (hw _ (List.mem_of_getElem? (i := 13) rfl))) (by decide +kernel) (by decide +kernel) (by decide) hmd ⟨_, (by rw [eT]; exact hsy), rfl, rfl⟩ fwd f6 f9
    (g := g) hg hsize (argsL := [.int i, .int j]) (argsT := [.ref pa, .int i, .int j]) (rest := []) (L0 := #[rv sy, iv i, iv j]) (lenOf pd__28II_29Z rfl) (lenOf pd__28_5bBII_29Z rfl) hst hd (fun _ => rfl) rfl
    (fun U ck bl target hU hck hh hW k => XS.aloadN hU hx rfl (hb hck f0) rfl rfl (Jvm.LamKit.getCap hx hU hW hmd cap (mvT (args := #[]) hZ (hw _ (List.mem_of_getElem? (i := 33) rfl))) (by rw [hh, eT]; exact hsy) rfl (v := .ref pa) rfl rfl rfl (hb hck f1) (XS.iloadN hU hx rfl (hb hck f4) rfl (XS.iloadN hU hx rfl (hb hck f5) rfl k))))
    (fun st v t h => by cases h.1; exact Or.inl ⟨.boolean, _, rfl, Or.inr (Or.inl rfl), hnb, rfl, rfl⟩) hf (by rw [hmr]; exact hl) hc hs (fun U hU hh => ⟨rfl, wtrans hZ hU, hh.trans eT⟩)
  obtain ⟨hw1, ht⟩ := hq
  obtain rfl : w = some (.int r) := Outcome.returned.inj hw1
  exact ⟨T', _, X', eh.trans ht, Fr.app N (fun y hy => hL y hy), st⟩
def lg2 (b0 b1 : Int32) : Int32 := if b0 = b1 then 1 else 0
def lg3 (b0 b1 b2 : Int32) : Int32 := if b0 = b1 ∧ b1 = b2 then 2 else if b0 = b2 then 1 else 0
def lg4 (b0 b1 b2 b3 : Int32) : Int32 := if b0 = b1 ∧ b1 = b2 ∧ b2 = b3 then 3 else if b0 = b2 ∧ b1 = b3 then 2 else if b0 = b3 then 1 else 0
theorem ef_rmSym (m : MethodId) (x0 : Addr) : entryFrame m #[(.ref x0)] 1 = mkF m 0 #[rv x0] [] := by first | (simp [entryFrame, mkF, argsToLocals, Value.category]; done) | rfl
def QSym (a1 : Addr) (cK : ClassId) (h0 : Heap) (n0 : Nat) (v : Option Value) (h : Heap) (L : List Loc) : Prop := ∃ r, v = some (.ref r) ∧ Fr n0 L ∧ Ext h0 h ∧ h0.size ≤ r ∧ h[r]? = some ({ cls := cK, slots := #[.ref a1], vm := .none } : Cell)
theorem d6_0 : decode prog_7_method_6_code 0 = .ok (.aload_n 0, 1) := by decide +kernel
theorem d_indy : decode prog_7_method_6_code 1 = .ok (.invokedynamic 30, 5) := by decide +kernel
theorem d6_6 : decode prog_7_method_6_code 6 = .ok (.areturn, 1) := by decide +kernel
set_option maxRecDepth 65536 in
set_option maxHeartbeats 40000000 in
theorem rmSym (l : Launch) (Z : State) (a0 : Array Value) (hw : ∀ d ∈ tables_1, d.before a0 Z = true) (ws : List Jvm.Cond) (a1 : Addr) (cK : ClassId) (one : Option Addr) (h0 : Heap) (n0 : Nat) (Z0 : n0 ≤ h0.size) (hSame : Z.sameButNew Z [] 0 0) (hLam : Z.lambdaAt? symN 1 30 sgm = some (cK, one)) :
    MetFree l (⟨"com/example/borderline/borderline/BorderTable", "symbolsOf", "([B)Lcom/example/borderline/borderline/BorderTable$Symbols;"⟩ : MethodName) (head1 (Jvm.Cond.code (⟨"com/example/borderline/borderline/BorderTable", "symbolsOf", "([B)Lcom/example/borderline/borderline/BorderTable$Symbols;"⟩ : MethodName) prog_7_method_6_code 1 (some (.object "com/example/borderline/borderline/BorderTable$Symbols")) :: ws) ({ frames := 0, cells := 1, slots := 1, locals := 3073 } : Room)) (fun a U => a = #[(.ref a1)] ∧ Z.WarmedH U.vm ∧ U.heap = h0) (fun _ _ _ _ _ => True) (fun _ U o U' => ∃ v L, o = .returned v ∧ QSym a1 cK h0 n0 v U'.heap L ∧ FrameEnd U o U' L ({ frames := 0, cells := 1, slots := 1, locals := 3073 } : Room).cells ({ frames := 0, cells := 1, slots := 1, locals := 3073 } : Room).slots) := by
  refine MetFree.of_bodySF (plainFor_of_name pn_com_example_borderline_borderline_BorderTable) hisR ?_
  intro p e s m args below meth c s₁ Bd hml0 hP hK
  obtain ⟨rfl, hZH, hh⟩ := hP
  have hZ : Z.Warmed39 s.vm := hZH.wide
  have hx := Bd.exec
  have hby := Bd.bytes
  have hlk : meth.locks = false := BodyLoose.notSynchronized Bd
  have hml : c.maxLocals = 1 := hml0
  have hown : s.vm.findClass "com/example/borderline/borderline/BorderTable" = some m.cls := findClass_of_methodNamed Bd.named
  have hnm := (name_of_methodNamed Bd.named Bd.method).1
  have X0 : Stand p l e ({ frames := 0, cells := 1, slots := 1, locals := 3073 } : Room) s m #[(.ref a1)] below meth c s₁ [] 0 0 := Stand.of_body Bd
  have e0 : s₁.heap = h0 := by rw [← hh, Bd.state]; rfl
  have N0 := Fr.nil n0
  have hret := Bd.returns
  show Goes p e below (fun o U' => ∃ v L, o = .returned v ∧ QSym a1 cK h0 n0 v U'.heap L ∧ FrameEnd s o U' L ({ frames := 0, cells := 1, slots := 1, locals := 3073 } : Room).cells ({ frames := 0, cells := 1, slots := 1, locals := 3073 } : Room).slots) (s₁.setTop (entryFrame m #[(.ref a1)] 1))
  refine Goes.step ?_ (fun _ k => castTop (ef_rmSym m a1) k)
  show Goes p e below _ (sF s₁ m 0 #[rv a1] [])
  refine Goes.step ?_ (fun _ k => XS.aloadN X0.here hx rfl (hb hby d6_0) rfl rfl k)
  show Goes p e below _ (sF s₁ m 1 #[rv a1] [(.ref a1)])
  have hat := own_lamAt hZH hSame (by decide) hLam
  obtain ⟨X1, st1⟩ := own_site X0 hx (x := symN) (pc := 1) (index := 30) (fi := 15) Bd.named hat (by decide) cap (mvT hZ (hw _ (List.mem_of_getElem? (i := 33) rfl))) (g := (mkF m 1 #[rv a1] [(.ref a1)])) rfl rfl (by rw [hml]; rfl) (hb hby d_indy) (vals := [.ref a1]) (rest := []) rfl rfl (fun i t v h1 h2 => by cases i with | zero => cases h1; cases h2; exact ⟨rfl, rfl⟩ | succ i => cases h1) (by show 2 * 0 + 1 + 3072 ≤ 3073; decide) (by decide) (by show 0 + 1 ≤ 1; decide)
  obtain ⟨T1, eT1⟩ : ∃ z, z = s₁.pushCell ({ cls := cK, slots := #[.ref a1], vm := .none } : Cell) := ⟨_, rfl⟩
  have eh1 : T1.heap = h0.push ({ cls := cK, slots := #[.ref a1], vm := .none } : Cell) := by rw [eT1, ← e0]; rfl
  have X1 : Stand p l e ({ frames := 0, cells := 1, slots := 1, locals := 3073 } : Room) s m #[(.ref a1)] below meth c T1 [] (0 + 1) (0 + 1) := by rw [eT1]; exact X1
  have st1 : ∀ target, Steps p.tables e below (T1.setTop (mkF m 6 #[rv a1] [(.ref h0.size)])) target → Steps p.tables e below (s₁.setTop (mkF m 1 #[rv a1] [(.ref a1)])) target := by rw [eT1, ← e0]; exact st1
  refine Goes.step ?_ st1
  show Goes p e below _ (sF T1 m 6 #[rv a1] [(.ref h0.size)])
  refine own_out X1 hx hlk hret rfl (Or.inr (Or.inr (Or.inr (Or.inr ⟨rfl, rfl, rfl⟩)))) (hb hby d6_6) ?_ (by decide) (by decide)
  show QSym a1 cK h0 n0 _ T1.heap _
  rw [eh1]
  exact ⟨h0.size, rfl, N0, own_push, Nat.le_refl _, by simp⟩
theorem ef_bu1 (m : MethodId) (x0 : Addr) (x1 : Int32) (x2 : Addr) : entryFrame m #[(.ref x0), (.int x1), (.ref x2)] 8 = mkF m 0 #[rv x0, iv x1, rv x2, .unset, .unset, .unset, .unset, .unset] [] := by first | (simp [entryFrame, mkF, argsToLocals, Value.category]; done) | rfl
def QBu1 (Z : State) (co : Addr) (b0 : Int32) (h0 : Heap) (n0 : Nat) (v : Option Value) (h : Heap) (L : List Loc) : Prop := ∃ (r : Addr) (kr : ClassId) (q : Int64), v = some (.ref r) ∧ Fr n0 L ∧ Keep h0 h [co] ∧ h0.size ≤ r ∧ Arv Z h r kr .int (1 : Int32) [(.int (-1 : Int32))] (.int (0 : Int32)) ∧ Fld Z h co "com/example/borderline/borderline/Comparisons" "count" "J" (.long q) ∧ ¬ (lcmpW q ((0 : Int32).toInt64)) < 0 ∧ ¬ (0 : Int32) < (lcmpW q ((0 : Int32).toInt64))
theorem d7_92 : decode prog_7_method_8_code 92 = .ok (.aload_n 2, 1) := by decide +kernel
theorem d7_93 : decode prog_7_method_8_code 93 = .ok (.iload_n 1, 1) := by decide +kernel
theorem d7_94 : decode prog_7_method_8_code 94 = .ok (.iconst 1, 1) := by decide +kernel
theorem d7_95 : decode prog_7_method_8_code 95 = .ok (.isub, 1) := by decide +kernel
theorem d7_96 : decode prog_7_method_8_code 96 = .ok (.iconst 0, 1) := by decide +kernel
theorem pd__28II_29I : parseMethodDescriptor "(II)I" = some ⟨[.int, .int], some .int⟩ := by decide +kernel
theorem d7_97 : decode prog_7_method_8_code 97 = .ok (.invokestatic 40, 3) := by decide +kernel
theorem d7_100 : decode prog_7_method_8_code 100 = .ok (.i2l, 1) := by decide +kernel
theorem d7_101 : decode prog_7_method_8_code 101 = .ok (.lload 5, 2) := by decide +kernel
theorem d7_103 : decode prog_7_method_8_code 103 = .ok (.ladd, 1) := by decide +kernel
theorem pd__28J_29V : parseMethodDescriptor "(J)V" = some ⟨[.long], none⟩ := by decide +kernel
theorem d7_104 : decode prog_7_method_8_code 104 = .ok (.invokevirtual 46, 3) := by decide +kernel
theorem d7_107 : decode prog_7_method_8_code 107 = .ok (.aload_n 3, 1) := by decide +kernel
theorem d7_108 : decode prog_7_method_8_code 108 = .ok (.areturn, 1) := by decide +kernel
set_option maxRecDepth 65536 in
set_option maxHeartbeats 40000000 in
theorem bu92_1 {p : Program} {l : Launch} {e : Env} {s : State} {m : MethodId} {args : Array Value} {below : List Frame} {meth : Method} {c : Code} {T0 : State} {locs : List Loc} {Z : State} {a0 : Array Value} {h0 : Heap} {n0 : Nat} (hh : Heap) (sy : Addr) (co : Addr) (tb : Addr) (kt : ClassId) (b0 : Int32) (k : Int32) (fb : Int64) (i : Int32)
    (X0 : Stand p l e ({ frames := 2, cells := 1, slots := 1, locals := 40 } : Room) s m args below meth c T0 locs (0 + 1) (0 + 1)) (hx : p.tables.exec = Jvm.exec) (hZ : Z.Warmed39 s.vm) (hw : ∀ d ∈ tables_1, d.before a0 Z = true) (hby : c.code = prog_7_method_8_code) (hlk : meth.locks = false) (hret : meth.sig.returnType = some (.array .int)) (hml : c.maxLocals = 8) (hown : s.vm.findClass "com/example/borderline/borderline/BorderTable" = some m.cls) (e0 : T0.heap = h0) (N0 : Fr n0 locs) (Z0 : n0 ≤ h0.size) (K_0 : Keep hh h0 [co]) (V_tb : Arv Z h0 tb kt .int (1 : Int32) [(.int (-1 : Int32))] (.int (0 : Int32))) (F_count : Fld Z h0 co "com/example/borderline/borderline/Comparisons" "count" "J" (.long (0 : Int64))) (E_co : Exa Z h0 co "com/example/borderline/borderline/Comparisons") (ne_co_tb : co ≠ tb) (g_co : n0 ≤ co) (sz_tb : hh.size ≤ tb) (l1 : ¬ (lcmpW ((0 : Int64) + ((maxV ((0 : Int32) - (1 : Int32)) (0 : Int32)).toInt64 + fb)) ((0 : Int32).toInt64)) < 0) (l2 : ¬ (0 : Int32) < (lcmpW ((0 : Int64) + ((maxV ((0 : Int32) - (1 : Int32)) (0 : Int32)).toInt64 + fb)) ((0 : Int32).toInt64))) :
    Goes p e below (fun o U' => ∃ v L, o = .returned v ∧ QBu1 Z co b0 hh n0 v U'.heap L ∧ FrameEnd s o U' L ({ frames := 2, cells := 1, slots := 1, locals := 40 } : Room).cells ({ frames := 2, cells := 1, slots := 1, locals := 40 } : Room).slots) (T0.setTop (mkF m 92 #[rv sy, iv (0 : Int32), rv co, rv tb, iv k, .val (.long fb), .second, iv i] [])) := by
  show Goes p e below _ (sF T0 m 92 #[rv sy, iv (0 : Int32), rv co, rv tb, iv k, .val (.long fb), .second, iv i] [])
  refine Goes.step ?_ (fun _ k => XS.aloadN X0.here hx rfl (hb hby d7_92) rfl rfl k)
  show Goes p e below _ (sF T0 m 93 #[rv sy, iv (0 : Int32), rv co, rv tb, iv k, .val (.long fb), .second, iv i] [(.ref co)])
  refine Goes.step ?_ (fun _ k => XS.iloadN X0.here hx rfl (hb hby d7_93) rfl  k)
  show Goes p e below _ (sF T0 m 94 #[rv sy, iv (0 : Int32), rv co, rv tb, iv k, .val (.long fb), .second, iv i] [(.int (0 : Int32)), (.ref co)])
  refine Goes.step ?_ (fun _ k => XS.iconst X0.here hx rfl (hb hby d7_94) k)
  show Goes p e below _ (sF T0 m 95 #[rv sy, iv (0 : Int32), rv co, rv tb, iv k, .val (.long fb), .second, iv i] [(.int (1 : Int32)), (.int (0 : Int32)), (.ref co)])
  refine Goes.step ?_ (fun _ k => XS.isub X0.here hx rfl (hb hby d7_95) rfl k)
  show Goes p e below _ (sF T0 m 96 #[rv sy, iv (0 : Int32), rv co, rv tb, iv k, .val (.long fb), .second, iv i] [(.int ((0 : Int32) - (1 : Int32))), (.ref co)])
  refine Goes.step ?_ (fun _ k => XS.iconst X0.here hx rfl (hb hby d7_96) k)
  show Goes p e below _ (sF T0 m 97 #[rv sy, iv (0 : Int32), rv co, rv tb, iv k, .val (.long fb), .second, iv i] [(.int (0 : Int32)), (.int ((0 : Int32) - (1 : Int32))), (.ref co)])
  obtain ⟨_, _, ⟨T1, L1, k1, n1⟩, -, X1, ⟨Lc1, hQ1, l1, y1, z1⟩, st1⟩ := Jvm.LawKit.callS X0 hx (y := (⟨"java/lang/Math", "max", "(II)I"⟩ : MethodName)) hown (mvT hZ (hw _ (List.mem_of_getElem? (i := 42) rfl))) (mvT hZ (hw _ (List.mem_of_getElem? (i := 24) rfl))) (mvT hZ (hw _ (List.mem_of_getElem? (i := 25) rfl))) (mvT hZ (hw _ (List.mem_of_getElem? (i := 26) rfl))) (by decide) (backOf (W := 1) (rmMax l Z a0 hw [] ((0 : Int32) - (1 : Int32)) (0 : Int32)  h0 n0 Z0 ) hZ (hw _ (List.mem_of_getElem? (i := 26) rfl)) (hw _ (List.mem_of_getElem? (i := 25) rfl)) (by decide) (by decide)) (g := (mkF m 97 #[rv sy, iv (0 : Int32), rv co, rv tb, iv k, .val (.long fb), .second, iv i] [(.int (0 : Int32)), (.int ((0 : Int32) - (1 : Int32))), (.ref co)])) rfl (by rw [hml]; rfl) (argsL := [(.int ((0 : Int32) - (1 : Int32))), (.int (0 : Int32))]) (rest := [(.ref co)]) (lenOf pd__28II_29I rfl) rfl (by show 2 * 0 + _ ≤ _; exact Nat.le_of_eq rfl) (hb hby d7_97) (fun _ _ => ⟨rfl, e0, (by decide : 0 + 1 + 0 ≤ _), (by decide : 0 + 1 + 0 ≤ _)⟩)
  dsimp only [Pt.U, Pt.locs, Pt.cells, Pt.slots] at X1 l1 y1 z1 st1 hQ1
  subst l1 y1 z1
  obtain ⟨rfl, N1q, e1⟩ := hQ1
  have N1 := Fr.app N0 N1q
  refine Goes.step ?_ st1
  show Goes p e below _ (sF T1 m 100 #[rv sy, iv (0 : Int32), rv co, rv tb, iv k, .val (.long fb), .second, iv i] [(.int (maxV ((0 : Int32) - (1 : Int32)) (0 : Int32))), (.ref co)])
  refine Goes.step ?_ (fun _ k => XS.i2l X1.here hx rfl (hb hby d7_100) rfl k)
  show Goes p e below _ (sF T1 m 101 #[rv sy, iv (0 : Int32), rv co, rv tb, iv k, .val (.long fb), .second, iv i] [(.long ((maxV ((0 : Int32) - (1 : Int32)) (0 : Int32)).toInt64)), (.ref co)])
  refine Goes.step ?_ (fun _ k => XS.lload X1.here hx rfl (hb hby d7_101) rfl  k)
  show Goes p e below _ (sF T1 m 103 #[rv sy, iv (0 : Int32), rv co, rv tb, iv k, .val (.long fb), .second, iv i] [(.long fb), (.long ((maxV ((0 : Int32) - (1 : Int32)) (0 : Int32)).toInt64)), (.ref co)])
  refine Goes.step ?_ (fun _ k => XS.ladd X1.here hx rfl (hb hby d7_103) rfl k)
  show Goes p e below _ (sF T1 m 104 #[rv sy, iv (0 : Int32), rv co, rv tb, iv k, .val (.long fb), .second, iv i] [(.long (((maxV ((0 : Int32) - (1 : Int32)) (0 : Int32)).toInt64) + fb)), (.ref co)])
  obtain ⟨cq2, kq2, q2a, q2b, q2c⟩ := isOf hZ e1 E_co
  obtain ⟨_, _, ⟨T2, L2, k2, n2⟩, -, X2, ⟨Lc2, hQ2, l2, y2, z2⟩, st2⟩ := X1.virtualBack hx (y := (⟨"com/example/borderline/borderline/Comparisons", "add", "(J)V"⟩ : MethodName)) (z := (⟨"com/example/borderline/borderline/Comparisons", "add", "(J)V"⟩ : MethodName)) hown (mvT hZ (hw _ (List.mem_of_getElem? (i := 43) rfl))) (mvT hZ (hw _ (List.mem_of_getElem? (i := 44) rfl))) (notFace_of_selects (args := #[]) (mvT hZ (hw _ (List.mem_of_getElem? (i := 46) rfl)))) (mvT hZ (hw _ (List.mem_of_getElem? (i := 46) rfl))) (mvT hZ (hw _ (List.mem_of_getElem? (i := 45) rfl))) (by decide) (backOf (W := 0) (rmAdd l Z a0 hw [] co (((maxV ((0 : Int32) - (1 : Int32)) (0 : Int32)).toInt64) + fb) (0 : Int64) h0 n0 Z0 F_count E_co g_co) hZ (hw _ (List.mem_of_getElem? (i := 47) rfl)) (hw _ (List.mem_of_getElem? (i := 4) rfl)) (by decide) (by decide)) q2a q2c (g := (mkF m 104 #[rv sy, iv (0 : Int32), rv co, rv tb, iv k, .val (.long fb), .second, iv i] [(.long (((maxV ((0 : Int32) - (1 : Int32)) (0 : Int32)).toInt64) + fb)), (.ref co)])) rfl (by rw [hml]; rfl) (Steps.refl _) (argsL := [(.long (((maxV ((0 : Int32) - (1 : Int32)) (0 : Int32)).toInt64) + fb))]) (rest := []) (lenOf pd__28J_29V rfl) rfl (by show 2 * 0 + _ ≤ _; exact Nat.le_of_eq rfl) (hb hby d7_104) (fun _ _ => ⟨rfl, e1, (by decide : 0 + 1 + 0 ≤ _), (by decide : 0 + 1 + 0 ≤ _)⟩)
  dsimp only [Pt.U, Pt.locs, Pt.cells, Pt.slots] at X2 l2 y2 z2 st2 hQ2
  subst l2 y2 z2
  obtain ⟨rfl, N2q, K2, G2⟩ := hQ2
  have N2 := Fr.app N1 N2q
  refine Goes.step ?_ (fun _ k => st2.trans k)
  have KK := K_0.trans K2 (allS (Or.inl (List.mem_of_getElem? (i := 0) rfl)) all0)
  have VV := V_tb.keep K2 (ninS (Ne.symm ne_co_tb) nin0)
  show Goes p e below _ (sF T2 m 107 #[rv sy, iv (0 : Int32), rv co, rv tb, iv k, .val (.long fb), .second, iv i] [])
  refine Goes.step ?_ (fun _ k => XS.aloadN X2.here hx rfl (hb hby d7_107) rfl rfl k)
  show Goes p e below _ (sF T2 m 108 #[rv sy, iv (0 : Int32), rv co, rv tb, iv k, .val (.long fb), .second, iv i] [(.ref tb)])
  refine own_out X2 hx hlk hret rfl (Or.inr (Or.inr (Or.inr (Or.inr ⟨rfl, rfl, rfl⟩)))) (hb hby d7_108) ?_ (by decide) (by decide)
  show QBu1 Z co b0 hh n0 _ T2.heap _
  exact ⟨tb, kt, ((0 : Int64) + (((maxV ((0 : Int32) - (1 : Int32)) (0 : Int32)).toInt64) + fb)), rfl, N2, KK, sz_tb, VV, G2, l1, l2⟩
theorem d7_0 : decode prog_7_method_8_code 0 = .ok (.iload_n 1, 1) := by decide +kernel
theorem d7_1 : decode prog_7_method_8_code 1 = .ok (.iconst 1, 1) := by decide +kernel
theorem d7_2 : decode prog_7_method_8_code 2 = .ok (.iadd, 1) := by decide +kernel
theorem d7_3 : decode prog_7_method_8_code 3 = .ok (.newarray .int, 2) := by decide +kernel
theorem d7_5 : decode prog_7_method_8_code 5 = .ok (.astore_n 3, 1) := by decide +kernel
theorem d7_6 : decode prog_7_method_8_code 6 = .ok (.aload_n 3, 1) := by decide +kernel
theorem d7_7 : decode prog_7_method_8_code 7 = .ok (.iconst 0, 1) := by decide +kernel
theorem d7_8 : decode prog_7_method_8_code 8 = .ok (.iconst (-1), 1) := by decide +kernel
theorem d7_9 : decode prog_7_method_8_code 9 = .ok (.iastore, 1) := by decide +kernel
theorem d7_10 : decode prog_7_method_8_code 10 = .ok (.iconst 0, 1) := by decide +kernel
theorem d7_11 : decode prog_7_method_8_code 11 = .ok (.istore 4, 2) := by decide +kernel
theorem d7_13 : decode prog_7_method_8_code 13 = .ok (.lconst 0, 1) := by decide +kernel
theorem d7_14 : decode prog_7_method_8_code 14 = .ok (.lstore 5, 2) := by decide +kernel
theorem d7_16 : decode prog_7_method_8_code 16 = .ok (.iconst 1, 1) := by decide +kernel
theorem d7_17 : decode prog_7_method_8_code 17 = .ok (.istore 7, 2) := by decide +kernel
theorem d7_19 : decode prog_7_method_8_code 19 = .ok (.iload 7, 2) := by decide +kernel
theorem d7_21 : decode prog_7_method_8_code 21 = .ok (.iload_n 1, 1) := by decide +kernel
theorem d7_22 : decode prog_7_method_8_code 22 = .ok (.if_icmp .ge 70, 3) := by decide +kernel
set_option maxRecDepth 65536 in
set_option maxHeartbeats 40000000 in
theorem rmBu1 (l : Launch) (Z : State) (a0 : Array Value) (hw : ∀ d ∈ tables_1, d.before a0 Z = true) (ws : List Jvm.Cond) (sy : Addr) (co : Addr) (cK : ClassId) (one : Option Addr) (pa : Addr) (kp : ClassId) (b0 : Int32) (h0 : Heap) (n0 : Nat) (Z0 : n0 ≤ h0.size) (hSame : Z.sameButNew Z [] 0 0) (hLam : Z.lambdaAt? symN 1 30 sgm = some (cK, one)) (hsy : h0[sy]? = some ({ cls := cK, slots := #[.ref pa], vm := .none } : Cell)) (V_pa : Arv Z h0 pa kp .byte (1 : Int32) [(.int b0)] (.int (0 : Int32))) (F_count : Fld Z h0 co "com/example/borderline/borderline/Comparisons" "count" "J" (.long (0 : Int64))) (E_co : Exa Z h0 co "com/example/borderline/borderline/Comparisons") (g_co : n0 ≤ co) :
    MetFree l (⟨"com/example/borderline/borderline/BorderTable", "build", "(Lcom/example/borderline/borderline/BorderTable$Symbols;ILcom/example/borderline/borderline/Comparisons;)[I"⟩ : MethodName) (head1 (Jvm.Cond.code (⟨"com/example/borderline/borderline/BorderTable", "build", "(Lcom/example/borderline/borderline/BorderTable$Symbols;ILcom/example/borderline/borderline/Comparisons;)[I"⟩ : MethodName) prog_7_method_8_code 8 (some (.array .int)) :: ws) ({ frames := 2, cells := 1, slots := 1, locals := 40 } : Room)) (fun a U => a = #[(.ref sy), (.int (0 : Int32)), (.ref co)] ∧ Z.WarmedH U.vm ∧ U.heap = h0) (fun _ _ _ _ _ => True) (fun _ U o U' => ∃ v L, o = .returned v ∧ QBu1 Z co b0 h0 n0 v U'.heap L ∧ FrameEnd U o U' L ({ frames := 2, cells := 1, slots := 1, locals := 40 } : Room).cells ({ frames := 2, cells := 1, slots := 1, locals := 40 } : Room).slots) := by
  refine MetFree.of_bodySF (plainFor_of_name pn_com_example_borderline_borderline_BorderTable) hisR ?_
  intro p e s m args below meth c s₁ Bd hml0 hP hK
  obtain ⟨rfl, hZH, hh⟩ := hP
  have hZ : Z.Warmed39 s.vm := hZH.wide
  have hx := Bd.exec
  have hby := Bd.bytes
  have hlk : meth.locks = false := BodyLoose.notSynchronized Bd
  have hml : c.maxLocals = 8 := hml0
  have hown : s.vm.findClass "com/example/borderline/borderline/BorderTable" = some m.cls := findClass_of_methodNamed Bd.named
  have hnm := (name_of_methodNamed Bd.named Bd.method).1
  have X0 : Stand p l e ({ frames := 2, cells := 1, slots := 1, locals := 40 } : Room) s m #[(.ref sy), (.int (0 : Int32)), (.ref co)] below meth c s₁ [] 0 0 := Stand.of_body Bd
  have e0 : s₁.heap = h0 := by rw [← hh, Bd.state]; rfl
  have N0 := Fr.nil n0
  have hret := Bd.returns
  show Goes p e below (fun o U' => ∃ v L, o = .returned v ∧ QBu1 Z co b0 h0 n0 v U'.heap L ∧ FrameEnd s o U' L ({ frames := 2, cells := 1, slots := 1, locals := 40 } : Room).cells ({ frames := 2, cells := 1, slots := 1, locals := 40 } : Room).slots) (s₁.setTop (entryFrame m #[(.ref sy), (.int (0 : Int32)), (.ref co)] 8))
  refine Goes.step ?_ (fun _ k => castTop (ef_bu1 m sy (0 : Int32) co) k)
  have hmd := own_made (own_lamAt hZH hSame (by decide) hLam)
  show Goes p e below _ (sF s₁ m 0 #[rv sy, iv (0 : Int32), rv co, .unset, .unset, .unset, .unset, .unset] [])
  refine Goes.step ?_ (fun _ k => XS.iloadN X0.here hx rfl (hb hby d7_0) rfl  k)
  show Goes p e below _ (sF s₁ m 1 #[rv sy, iv (0 : Int32), rv co, .unset, .unset, .unset, .unset, .unset] [(.int (0 : Int32))])
  refine Goes.step ?_ (fun _ k => XS.iconst X0.here hx rfl (hb hby d7_1) k)
  show Goes p e below _ (sF s₁ m 2 #[rv sy, iv (0 : Int32), rv co, .unset, .unset, .unset, .unset, .unset] [(.int (1 : Int32)), (.int (0 : Int32))])
  refine Goes.step ?_ (fun _ k => XS.iadd X0.here hx rfl (hb hby d7_2) rfl k)
  show Goes p e below _ (sF s₁ m 3 #[rv sy, iv (0 : Int32), rv co, .unset, .unset, .unset, .unset, .unset] [(.int ((0 : Int32) + (1 : Int32)))])
  rw [show ((0 : Int32) + (1 : Int32)) = (1 : Int32) from by decide]
  show Goes p e below _ (sF s₁ m 3 #[rv sy, iv (0 : Int32), rv co, .unset, .unset, .unset, .unset, .unset] [(.int (1 : Int32))])
  obtain ⟨T1, h1, k1, X1, e1, E1, A1, st1⟩ := newP X0 hx hZ (hw _ (List.mem_of_getElem? (i := 15) rfl)) e0 (g := (mkF m 3 #[rv sy, iv (0 : Int32), rv co, .unset, .unset, .unset, .unset, .unset] [(.int (1 : Int32))])) rfl (hb hby d7_3) rfl (by decide) (cap := 1) (by decide) (by decide) (by decide) (by decide)
  obtain ⟨ob1, g1⟩ : ∃ z, z = h0.size := ⟨_, rfl⟩
  rw [← g1] at A1 st1
  have g_ob1 : n0 ≤ ob1 := Nat.le_trans Z0 (Nat.le_of_eq g1.symm)
  have sz_ob1 : h0.size ≤ ob1 := Nat.le_trans (Keep.refl h0 [co]).1 (Nat.le_of_eq g1.symm)
  have ne_pa_ob1 : pa ≠ ob1 := Nat.ne_of_lt (Nat.lt_of_lt_of_le V_pa.lt (Nat.le_of_eq g1.symm))
  have ne_co_ob1 : co ≠ ob1 := Nat.ne_of_lt (Nat.lt_of_lt_of_le F_count.lt (Nat.le_of_eq g1.symm))
  have Zs1 : n0 ≤ h1.size := Nat.le_trans Z0 E1.1
  refine Goes.step ?_ st1
  have V_ob1 : Arv Z h1 ob1 k1 .int (1 : Int32) [(.int (0 : Int32))] (.int (0 : Int32)) := (Arv.new A1 (by decide)).pad (pad_rep [] (.int (0 : Int32)) 1)
  have ne_sy_ob1 : sy ≠ ob1 := Nat.ne_of_lt (Nat.lt_of_lt_of_le (Array.getElem?_eq_some_iff.mp hsy).1 (Nat.le_of_eq g1.symm))
  show Goes p e below _ (sF T1 m 5 #[rv sy, iv (0 : Int32), rv co, .unset, .unset, .unset, .unset, .unset] [(.ref ob1)])
  refine Goes.step ?_ (fun _ k => XS.astoreN X1.here hx rfl (hb hby d7_5) rfl rfl (l' := #[rv sy, iv (0 : Int32), rv co, rv ob1, .unset, .unset, .unset, .unset]) rfl k)
  show Goes p e below _ (sF T1 m 6 #[rv sy, iv (0 : Int32), rv co, rv ob1, .unset, .unset, .unset, .unset] [])
  refine Goes.step ?_ (fun _ k => XS.aloadN X1.here hx rfl (hb hby d7_6) rfl rfl k)
  show Goes p e below _ (sF T1 m 7 #[rv sy, iv (0 : Int32), rv co, rv ob1, .unset, .unset, .unset, .unset] [(.ref ob1)])
  refine Goes.step ?_ (fun _ k => XS.iconst X1.here hx rfl (hb hby d7_7) k)
  show Goes p e below _ (sF T1 m 8 #[rv sy, iv (0 : Int32), rv co, rv ob1, .unset, .unset, .unset, .unset] [(.int (0 : Int32)), (.ref ob1)])
  refine Goes.step ?_ (fun _ k => XS.iconst X1.here hx rfl (hb hby d7_8) k)
  show Goes p e below _ (sF T1 m 9 #[rv sy, iv (0 : Int32), rv co, rv ob1, .unset, .unset, .unset, .unset] [(.int (-1 : Int32)), (.int (0 : Int32)), (.ref ob1)])
  obtain ⟨cl2, Ar2, q2, S2, N_2, H2, G2⟩ := id V_ob1
  have hin3 : ¬ ((0 : Int32) < 0 ∨ cl2.slots.size ≤ ((0 : Int32)).toNatClampNeg) := inb_of S2 ⟨by decide, by decide⟩
  obtain ⟨T3, h3, X3, e3, W3, st3⟩ := stI X1 hx hZ e1 Ar2 (j := (0 : Int32)) hin3 (g := (mkF m 9 #[rv sy, iv (0 : Int32), rv co, rv ob1, .unset, .unset, .unset, .unset] [(.int (-1 : Int32)), (.int (0 : Int32)), (.ref ob1)])) rfl rfl (hb hby d7_9)
  have V_3 : Arv Z h3 ob1 k1 .int (1 : Int32) [(.int (-1 : Int32))] (.int (0 : Int32)) := Arv.set Ar2 q2 S2 N_2 H2 G2 rfl W3 0 rfl (Nat.le_of_ble_eq_true rfl)
  have Zs3 : n0 ≤ h3.size := Nat.le_trans Zs1 (Keep.of_wr W3).1
  have N3 := Fr.snoc X3 N0 g_ob1
  refine Goes.step ?_ st3
  show Goes p e below _ (sF T3 m 10 #[rv sy, iv (0 : Int32), rv co, rv ob1, .unset, .unset, .unset, .unset] [])
  refine Goes.step ?_ (fun _ k => XS.iconst X3.here hx rfl (hb hby d7_10) k)
  show Goes p e below _ (sF T3 m 11 #[rv sy, iv (0 : Int32), rv co, rv ob1, .unset, .unset, .unset, .unset] [(.int (0 : Int32))])
  refine Goes.step ?_ (fun _ k => XS.istore X3.here hx rfl (hb hby d7_11) rfl (l' := #[rv sy, iv (0 : Int32), rv co, rv ob1, iv (0 : Int32), .unset, .unset, .unset]) rfl k)
  show Goes p e below _ (sF T3 m 13 #[rv sy, iv (0 : Int32), rv co, rv ob1, iv (0 : Int32), .unset, .unset, .unset] [])
  refine Goes.step ?_ (fun _ k => XS.lconst X3.here hx rfl (hb hby d7_13) k)
  show Goes p e below _ (sF T3 m 14 #[rv sy, iv (0 : Int32), rv co, rv ob1, iv (0 : Int32), .unset, .unset, .unset] [(.long (0 : Int64))])
  refine Goes.step ?_ (fun _ k => XS.lstore X3.here hx rfl (hb hby d7_14) rfl (l' := #[rv sy, iv (0 : Int32), rv co, rv ob1, iv (0 : Int32), .val (.long (0 : Int64)), .second, .unset]) rfl k)
  show Goes p e below _ (sF T3 m 16 #[rv sy, iv (0 : Int32), rv co, rv ob1, iv (0 : Int32), .val (.long (0 : Int64)), .second, .unset] [])
  refine Goes.step ?_ (fun _ k => XS.iconst X3.here hx rfl (hb hby d7_16) k)
  show Goes p e below _ (sF T3 m 17 #[rv sy, iv (0 : Int32), rv co, rv ob1, iv (0 : Int32), .val (.long (0 : Int64)), .second, .unset] [(.int (1 : Int32))])
  refine Goes.step ?_ (fun _ k => XS.istore X3.here hx rfl (hb hby d7_17) rfl (l' := #[rv sy, iv (0 : Int32), rv co, rv ob1, iv (0 : Int32), .val (.long (0 : Int64)), .second, iv (1 : Int32)]) rfl k)
  show Goes p e below _ (sF T3 m 19 #[rv sy, iv (0 : Int32), rv co, rv ob1, iv (0 : Int32), .val (.long (0 : Int64)), .second, iv (1 : Int32)] [])
  refine Goes.step ?_ (fun _ k => XS.iload X3.here hx rfl (hb hby d7_19) rfl  k)
  show Goes p e below _ (sF T3 m 21 #[rv sy, iv (0 : Int32), rv co, rv ob1, iv (0 : Int32), .val (.long (0 : Int64)), .second, iv (1 : Int32)] [(.int (1 : Int32))])
  refine Goes.step ?_ (fun _ k => XS.iloadN X3.here hx rfl (hb hby d7_21) rfl  k)
  show Goes p e below _ (sF T3 m 22 #[rv sy, iv (0 : Int32), rv co, rv ob1, iv (0 : Int32), .val (.long (0 : Int64)), .second, iv (1 : Int32)] [(.int (0 : Int32)), (.int (1 : Int32))])
  refine Goes.step ?_ (fun _ k => XS.icmpYes X3.here hx rfl (pc0 := 22) (pc' := 92) rfl (hb hby d7_22) rfl (flt (by decide : ¬ ((1 : Int32) < (0 : Int32)))).2.1 (by decide) (by decide) k)
  show Goes p e below _ (sF T3 m 92 #[rv sy, iv (0 : Int32), rv co, rv ob1, iv (0 : Int32), .val (.long (0 : Int64)), .second, iv (1 : Int32)] [])
  have K_4 := (((Keep.refl h0 [co]).ext E1).wr W3 (Or.inr sz_ob1))
  have F_co_count_5 := ((F_count.ext E1).other W3 (Or.inl ne_co_ob1))
  have E_co_6 := ((E_co.ext E1).wr W3)
  exact bu92_1 h0 sy co ob1 k1 b0 (0 : Int32) (0 : Int64) (1 : Int32) X3 hx hZ hw hby hlk hret hml hown e3 N3 Zs3 K_4 V_3 F_co_count_5 E_co_6 ne_co_ob1 g_co sz_ob1 (by decide) (by decide)
theorem ef_bu2 (m : MethodId) (x0 : Addr) (x1 : Int32) (x2 : Addr) : entryFrame m #[(.ref x0), (.int x1), (.ref x2)] 8 = mkF m 0 #[rv x0, iv x1, rv x2, .unset, .unset, .unset, .unset, .unset] [] := by first | (simp [entryFrame, mkF, argsToLocals, Value.category]; done) | rfl
def QBu2 (Z : State) (co : Addr) (b0 b1 : Int32) (h0 : Heap) (n0 : Nat) (v : Option Value) (h : Heap) (L : List Loc) : Prop := ∃ (r : Addr) (kr : ClassId) (q : Int64), v = some (.ref r) ∧ Fr n0 L ∧ Keep h0 h [co] ∧ h0.size ≤ r ∧ Arv Z h r kr .int (2 : Int32) [(.int (-1 : Int32)), (.int (0 : Int32))] (.int (0 : Int32)) ∧ Fld Z h co "com/example/borderline/borderline/Comparisons" "count" "J" (.long q) ∧ ¬ (lcmpW q ((0 : Int32).toInt64)) < 0 ∧ ¬ (0 : Int32) < (lcmpW q ((0 : Int32).toInt64))
set_option maxRecDepth 65536 in
set_option maxHeartbeats 40000000 in
theorem bu92_2 {p : Program} {l : Launch} {e : Env} {s : State} {m : MethodId} {args : Array Value} {below : List Frame} {meth : Method} {c : Code} {T0 : State} {locs : List Loc} {Z : State} {a0 : Array Value} {h0 : Heap} {n0 : Nat} (hh : Heap) (sy : Addr) (co : Addr) (tb : Addr) (kt : ClassId) (b0 : Int32) (b1 : Int32) (k : Int32) (fb : Int64) (i : Int32)
    (X0 : Stand p l e ({ frames := 2, cells := 1, slots := 2, locals := 40 } : Room) s m args below meth c T0 locs (0 + 1) (0 + 2)) (hx : p.tables.exec = Jvm.exec) (hZ : Z.Warmed39 s.vm) (hw : ∀ d ∈ tables_1, d.before a0 Z = true) (hby : c.code = prog_7_method_8_code) (hlk : meth.locks = false) (hret : meth.sig.returnType = some (.array .int)) (hml : c.maxLocals = 8) (hown : s.vm.findClass "com/example/borderline/borderline/BorderTable" = some m.cls) (e0 : T0.heap = h0) (N0 : Fr n0 locs) (Z0 : n0 ≤ h0.size) (K_0 : Keep hh h0 [co]) (V_tb : Arv Z h0 tb kt .int (2 : Int32) [(.int (-1 : Int32)), (.int (0 : Int32))] (.int (0 : Int32))) (F_count : Fld Z h0 co "com/example/borderline/borderline/Comparisons" "count" "J" (.long (0 : Int64))) (E_co : Exa Z h0 co "com/example/borderline/borderline/Comparisons") (ne_co_tb : co ≠ tb) (g_co : n0 ≤ co) (sz_tb : hh.size ≤ tb) (l1 : ¬ (lcmpW ((0 : Int64) + ((maxV ((1 : Int32) - (1 : Int32)) (0 : Int32)).toInt64 + fb)) ((0 : Int32).toInt64)) < 0) (l2 : ¬ (0 : Int32) < (lcmpW ((0 : Int64) + ((maxV ((1 : Int32) - (1 : Int32)) (0 : Int32)).toInt64 + fb)) ((0 : Int32).toInt64))) :
    Goes p e below (fun o U' => ∃ v L, o = .returned v ∧ QBu2 Z co b0 b1 hh n0 v U'.heap L ∧ FrameEnd s o U' L ({ frames := 2, cells := 1, slots := 2, locals := 40 } : Room).cells ({ frames := 2, cells := 1, slots := 2, locals := 40 } : Room).slots) (T0.setTop (mkF m 92 #[rv sy, iv (1 : Int32), rv co, rv tb, iv k, .val (.long fb), .second, iv i] [])) := by
  show Goes p e below _ (sF T0 m 92 #[rv sy, iv (1 : Int32), rv co, rv tb, iv k, .val (.long fb), .second, iv i] [])
  refine Goes.step ?_ (fun _ k => XS.aloadN X0.here hx rfl (hb hby d7_92) rfl rfl k)
  show Goes p e below _ (sF T0 m 93 #[rv sy, iv (1 : Int32), rv co, rv tb, iv k, .val (.long fb), .second, iv i] [(.ref co)])
  refine Goes.step ?_ (fun _ k => XS.iloadN X0.here hx rfl (hb hby d7_93) rfl  k)
  show Goes p e below _ (sF T0 m 94 #[rv sy, iv (1 : Int32), rv co, rv tb, iv k, .val (.long fb), .second, iv i] [(.int (1 : Int32)), (.ref co)])
  refine Goes.step ?_ (fun _ k => XS.iconst X0.here hx rfl (hb hby d7_94) k)
  show Goes p e below _ (sF T0 m 95 #[rv sy, iv (1 : Int32), rv co, rv tb, iv k, .val (.long fb), .second, iv i] [(.int (1 : Int32)), (.int (1 : Int32)), (.ref co)])
  refine Goes.step ?_ (fun _ k => XS.isub X0.here hx rfl (hb hby d7_95) rfl k)
  show Goes p e below _ (sF T0 m 96 #[rv sy, iv (1 : Int32), rv co, rv tb, iv k, .val (.long fb), .second, iv i] [(.int ((1 : Int32) - (1 : Int32))), (.ref co)])
  refine Goes.step ?_ (fun _ k => XS.iconst X0.here hx rfl (hb hby d7_96) k)
  show Goes p e below _ (sF T0 m 97 #[rv sy, iv (1 : Int32), rv co, rv tb, iv k, .val (.long fb), .second, iv i] [(.int (0 : Int32)), (.int ((1 : Int32) - (1 : Int32))), (.ref co)])
  obtain ⟨_, _, ⟨T1, L1, k1, n1⟩, -, X1, ⟨Lc1, hQ1, l1, y1, z1⟩, st1⟩ := Jvm.LawKit.callS X0 hx (y := (⟨"java/lang/Math", "max", "(II)I"⟩ : MethodName)) hown (mvT hZ (hw _ (List.mem_of_getElem? (i := 42) rfl))) (mvT hZ (hw _ (List.mem_of_getElem? (i := 24) rfl))) (mvT hZ (hw _ (List.mem_of_getElem? (i := 25) rfl))) (mvT hZ (hw _ (List.mem_of_getElem? (i := 26) rfl))) (by decide) (backOf (W := 1) (rmMax l Z a0 hw [] ((1 : Int32) - (1 : Int32)) (0 : Int32)  h0 n0 Z0 ) hZ (hw _ (List.mem_of_getElem? (i := 26) rfl)) (hw _ (List.mem_of_getElem? (i := 25) rfl)) (by decide) (by decide)) (g := (mkF m 97 #[rv sy, iv (1 : Int32), rv co, rv tb, iv k, .val (.long fb), .second, iv i] [(.int (0 : Int32)), (.int ((1 : Int32) - (1 : Int32))), (.ref co)])) rfl (by rw [hml]; rfl) (argsL := [(.int ((1 : Int32) - (1 : Int32))), (.int (0 : Int32))]) (rest := [(.ref co)]) (lenOf pd__28II_29I rfl) rfl (by show 2 * 0 + _ ≤ _; exact Nat.le_of_eq rfl) (hb hby d7_97) (fun _ _ => ⟨rfl, e0, (by decide : 0 + 1 + 0 ≤ _), (by decide : 0 + 2 + 0 ≤ _)⟩)
  dsimp only [Pt.U, Pt.locs, Pt.cells, Pt.slots] at X1 l1 y1 z1 st1 hQ1
  subst l1 y1 z1
  obtain ⟨rfl, N1q, e1⟩ := hQ1
  have N1 := Fr.app N0 N1q
  refine Goes.step ?_ st1
  show Goes p e below _ (sF T1 m 100 #[rv sy, iv (1 : Int32), rv co, rv tb, iv k, .val (.long fb), .second, iv i] [(.int (maxV ((1 : Int32) - (1 : Int32)) (0 : Int32))), (.ref co)])
  refine Goes.step ?_ (fun _ k => XS.i2l X1.here hx rfl (hb hby d7_100) rfl k)
  show Goes p e below _ (sF T1 m 101 #[rv sy, iv (1 : Int32), rv co, rv tb, iv k, .val (.long fb), .second, iv i] [(.long ((maxV ((1 : Int32) - (1 : Int32)) (0 : Int32)).toInt64)), (.ref co)])
  refine Goes.step ?_ (fun _ k => XS.lload X1.here hx rfl (hb hby d7_101) rfl  k)
  show Goes p e below _ (sF T1 m 103 #[rv sy, iv (1 : Int32), rv co, rv tb, iv k, .val (.long fb), .second, iv i] [(.long fb), (.long ((maxV ((1 : Int32) - (1 : Int32)) (0 : Int32)).toInt64)), (.ref co)])
  refine Goes.step ?_ (fun _ k => XS.ladd X1.here hx rfl (hb hby d7_103) rfl k)
  show Goes p e below _ (sF T1 m 104 #[rv sy, iv (1 : Int32), rv co, rv tb, iv k, .val (.long fb), .second, iv i] [(.long (((maxV ((1 : Int32) - (1 : Int32)) (0 : Int32)).toInt64) + fb)), (.ref co)])
  obtain ⟨cq2, kq2, q2a, q2b, q2c⟩ := isOf hZ e1 E_co
  obtain ⟨_, _, ⟨T2, L2, k2, n2⟩, -, X2, ⟨Lc2, hQ2, l2, y2, z2⟩, st2⟩ := X1.virtualBack hx (y := (⟨"com/example/borderline/borderline/Comparisons", "add", "(J)V"⟩ : MethodName)) (z := (⟨"com/example/borderline/borderline/Comparisons", "add", "(J)V"⟩ : MethodName)) hown (mvT hZ (hw _ (List.mem_of_getElem? (i := 43) rfl))) (mvT hZ (hw _ (List.mem_of_getElem? (i := 44) rfl))) (notFace_of_selects (args := #[]) (mvT hZ (hw _ (List.mem_of_getElem? (i := 46) rfl)))) (mvT hZ (hw _ (List.mem_of_getElem? (i := 46) rfl))) (mvT hZ (hw _ (List.mem_of_getElem? (i := 45) rfl))) (by decide) (backOf (W := 0) (rmAdd l Z a0 hw [] co (((maxV ((1 : Int32) - (1 : Int32)) (0 : Int32)).toInt64) + fb) (0 : Int64) h0 n0 Z0 F_count E_co g_co) hZ (hw _ (List.mem_of_getElem? (i := 47) rfl)) (hw _ (List.mem_of_getElem? (i := 4) rfl)) (by decide) (by decide)) q2a q2c (g := (mkF m 104 #[rv sy, iv (1 : Int32), rv co, rv tb, iv k, .val (.long fb), .second, iv i] [(.long (((maxV ((1 : Int32) - (1 : Int32)) (0 : Int32)).toInt64) + fb)), (.ref co)])) rfl (by rw [hml]; rfl) (Steps.refl _) (argsL := [(.long (((maxV ((1 : Int32) - (1 : Int32)) (0 : Int32)).toInt64) + fb))]) (rest := []) (lenOf pd__28J_29V rfl) rfl (by show 2 * 0 + _ ≤ _; exact Nat.le_of_eq rfl) (hb hby d7_104) (fun _ _ => ⟨rfl, e1, (by decide : 0 + 1 + 0 ≤ _), (by decide : 0 + 2 + 0 ≤ _)⟩)
  dsimp only [Pt.U, Pt.locs, Pt.cells, Pt.slots] at X2 l2 y2 z2 st2 hQ2
  subst l2 y2 z2
  obtain ⟨rfl, N2q, K2, G2⟩ := hQ2
  have N2 := Fr.app N1 N2q
  refine Goes.step ?_ (fun _ k => st2.trans k)
  have KK := K_0.trans K2 (allS (Or.inl (List.mem_of_getElem? (i := 0) rfl)) all0)
  have VV := V_tb.keep K2 (ninS (Ne.symm ne_co_tb) nin0)
  show Goes p e below _ (sF T2 m 107 #[rv sy, iv (1 : Int32), rv co, rv tb, iv k, .val (.long fb), .second, iv i] [])
  refine Goes.step ?_ (fun _ k => XS.aloadN X2.here hx rfl (hb hby d7_107) rfl rfl k)
  show Goes p e below _ (sF T2 m 108 #[rv sy, iv (1 : Int32), rv co, rv tb, iv k, .val (.long fb), .second, iv i] [(.ref tb)])
  refine own_out X2 hx hlk hret rfl (Or.inr (Or.inr (Or.inr (Or.inr ⟨rfl, rfl, rfl⟩)))) (hb hby d7_108) ?_ (by decide) (by decide)
  show QBu2 Z co b0 b1 hh n0 _ T2.heap _
  exact ⟨tb, kt, ((0 : Int64) + (((maxV ((1 : Int32) - (1 : Int32)) (0 : Int32)).toInt64) + fb)), rfl, N2, KK, sz_tb, VV, G2, l1, l2⟩
set_option maxRecDepth 65536 in
set_option maxHeartbeats 40000000 in
theorem rmBu2 (l : Launch) (Z : State) (a0 : Array Value) (hw : ∀ d ∈ tables_1, d.before a0 Z = true) (ws : List Jvm.Cond) (sy : Addr) (co : Addr) (cK : ClassId) (one : Option Addr) (pa : Addr) (kp : ClassId) (b0 : Int32) (b1 : Int32) (h0 : Heap) (n0 : Nat) (Z0 : n0 ≤ h0.size) (hSame : Z.sameButNew Z [] 0 0) (hLam : Z.lambdaAt? symN 1 30 sgm = some (cK, one)) (hsy : h0[sy]? = some ({ cls := cK, slots := #[.ref pa], vm := .none } : Cell)) (V_pa : Arv Z h0 pa kp .byte (2 : Int32) [(.int b0), (.int b1)] (.int (0 : Int32))) (F_count : Fld Z h0 co "com/example/borderline/borderline/Comparisons" "count" "J" (.long (0 : Int64))) (E_co : Exa Z h0 co "com/example/borderline/borderline/Comparisons") (g_co : n0 ≤ co) :
    MetFree l (⟨"com/example/borderline/borderline/BorderTable", "build", "(Lcom/example/borderline/borderline/BorderTable$Symbols;ILcom/example/borderline/borderline/Comparisons;)[I"⟩ : MethodName) (head1 (Jvm.Cond.code (⟨"com/example/borderline/borderline/BorderTable", "build", "(Lcom/example/borderline/borderline/BorderTable$Symbols;ILcom/example/borderline/borderline/Comparisons;)[I"⟩ : MethodName) prog_7_method_8_code 8 (some (.array .int)) :: ws) ({ frames := 2, cells := 1, slots := 2, locals := 40 } : Room)) (fun a U => a = #[(.ref sy), (.int (1 : Int32)), (.ref co)] ∧ Z.WarmedH U.vm ∧ U.heap = h0) (fun _ _ _ _ _ => True) (fun _ U o U' => ∃ v L, o = .returned v ∧ QBu2 Z co b0 b1 h0 n0 v U'.heap L ∧ FrameEnd U o U' L ({ frames := 2, cells := 1, slots := 2, locals := 40 } : Room).cells ({ frames := 2, cells := 1, slots := 2, locals := 40 } : Room).slots) := by
  refine MetFree.of_bodySF (plainFor_of_name pn_com_example_borderline_borderline_BorderTable) hisR ?_
  intro p e s m args below meth c s₁ Bd hml0 hP hK
  obtain ⟨rfl, hZH, hh⟩ := hP
  have hZ : Z.Warmed39 s.vm := hZH.wide
  have hx := Bd.exec
  have hby := Bd.bytes
  have hlk : meth.locks = false := BodyLoose.notSynchronized Bd
  have hml : c.maxLocals = 8 := hml0
  have hown : s.vm.findClass "com/example/borderline/borderline/BorderTable" = some m.cls := findClass_of_methodNamed Bd.named
  have hnm := (name_of_methodNamed Bd.named Bd.method).1
  have X0 : Stand p l e ({ frames := 2, cells := 1, slots := 2, locals := 40 } : Room) s m #[(.ref sy), (.int (1 : Int32)), (.ref co)] below meth c s₁ [] 0 0 := Stand.of_body Bd
  have e0 : s₁.heap = h0 := by rw [← hh, Bd.state]; rfl
  have N0 := Fr.nil n0
  have hret := Bd.returns
  show Goes p e below (fun o U' => ∃ v L, o = .returned v ∧ QBu2 Z co b0 b1 h0 n0 v U'.heap L ∧ FrameEnd s o U' L ({ frames := 2, cells := 1, slots := 2, locals := 40 } : Room).cells ({ frames := 2, cells := 1, slots := 2, locals := 40 } : Room).slots) (s₁.setTop (entryFrame m #[(.ref sy), (.int (1 : Int32)), (.ref co)] 8))
  refine Goes.step ?_ (fun _ k => castTop (ef_bu2 m sy (1 : Int32) co) k)
  have hmd := own_made (own_lamAt hZH hSame (by decide) hLam)
  show Goes p e below _ (sF s₁ m 0 #[rv sy, iv (1 : Int32), rv co, .unset, .unset, .unset, .unset, .unset] [])
  refine Goes.step ?_ (fun _ k => XS.iloadN X0.here hx rfl (hb hby d7_0) rfl  k)
  show Goes p e below _ (sF s₁ m 1 #[rv sy, iv (1 : Int32), rv co, .unset, .unset, .unset, .unset, .unset] [(.int (1 : Int32))])
  refine Goes.step ?_ (fun _ k => XS.iconst X0.here hx rfl (hb hby d7_1) k)
  show Goes p e below _ (sF s₁ m 2 #[rv sy, iv (1 : Int32), rv co, .unset, .unset, .unset, .unset, .unset] [(.int (1 : Int32)), (.int (1 : Int32))])
  refine Goes.step ?_ (fun _ k => XS.iadd X0.here hx rfl (hb hby d7_2) rfl k)
  show Goes p e below _ (sF s₁ m 3 #[rv sy, iv (1 : Int32), rv co, .unset, .unset, .unset, .unset, .unset] [(.int ((1 : Int32) + (1 : Int32)))])
  rw [show ((1 : Int32) + (1 : Int32)) = (2 : Int32) from by decide]
  show Goes p e below _ (sF s₁ m 3 #[rv sy, iv (1 : Int32), rv co, .unset, .unset, .unset, .unset, .unset] [(.int (2 : Int32))])
  obtain ⟨T1, h1, k1, X1, e1, E1, A1, st1⟩ := newP X0 hx hZ (hw _ (List.mem_of_getElem? (i := 15) rfl)) e0 (g := (mkF m 3 #[rv sy, iv (1 : Int32), rv co, .unset, .unset, .unset, .unset, .unset] [(.int (2 : Int32))])) rfl (hb hby d7_3) rfl (by decide) (cap := 2) (by decide) (by decide) (by decide) (by decide)
  obtain ⟨ob1, g1⟩ : ∃ z, z = h0.size := ⟨_, rfl⟩
  rw [← g1] at A1 st1
  have g_ob1 : n0 ≤ ob1 := Nat.le_trans Z0 (Nat.le_of_eq g1.symm)
  have sz_ob1 : h0.size ≤ ob1 := Nat.le_trans (Keep.refl h0 [co]).1 (Nat.le_of_eq g1.symm)
  have ne_pa_ob1 : pa ≠ ob1 := Nat.ne_of_lt (Nat.lt_of_lt_of_le V_pa.lt (Nat.le_of_eq g1.symm))
  have ne_co_ob1 : co ≠ ob1 := Nat.ne_of_lt (Nat.lt_of_lt_of_le F_count.lt (Nat.le_of_eq g1.symm))
  have Zs1 : n0 ≤ h1.size := Nat.le_trans Z0 E1.1
  refine Goes.step ?_ st1
  have V_ob1 : Arv Z h1 ob1 k1 .int (2 : Int32) [(.int (0 : Int32)), (.int (0 : Int32))] (.int (0 : Int32)) := (Arv.new A1 (by decide)).pad (pad_rep [] (.int (0 : Int32)) 2)
  have ne_sy_ob1 : sy ≠ ob1 := Nat.ne_of_lt (Nat.lt_of_lt_of_le (Array.getElem?_eq_some_iff.mp hsy).1 (Nat.le_of_eq g1.symm))
  show Goes p e below _ (sF T1 m 5 #[rv sy, iv (1 : Int32), rv co, .unset, .unset, .unset, .unset, .unset] [(.ref ob1)])
  refine Goes.step ?_ (fun _ k => XS.astoreN X1.here hx rfl (hb hby d7_5) rfl rfl (l' := #[rv sy, iv (1 : Int32), rv co, rv ob1, .unset, .unset, .unset, .unset]) rfl k)
  show Goes p e below _ (sF T1 m 6 #[rv sy, iv (1 : Int32), rv co, rv ob1, .unset, .unset, .unset, .unset] [])
  refine Goes.step ?_ (fun _ k => XS.aloadN X1.here hx rfl (hb hby d7_6) rfl rfl k)
  show Goes p e below _ (sF T1 m 7 #[rv sy, iv (1 : Int32), rv co, rv ob1, .unset, .unset, .unset, .unset] [(.ref ob1)])
  refine Goes.step ?_ (fun _ k => XS.iconst X1.here hx rfl (hb hby d7_7) k)
  show Goes p e below _ (sF T1 m 8 #[rv sy, iv (1 : Int32), rv co, rv ob1, .unset, .unset, .unset, .unset] [(.int (0 : Int32)), (.ref ob1)])
  refine Goes.step ?_ (fun _ k => XS.iconst X1.here hx rfl (hb hby d7_8) k)
  show Goes p e below _ (sF T1 m 9 #[rv sy, iv (1 : Int32), rv co, rv ob1, .unset, .unset, .unset, .unset] [(.int (-1 : Int32)), (.int (0 : Int32)), (.ref ob1)])
  obtain ⟨cl2, Ar2, q2, S2, N_2, H2, G2⟩ := id V_ob1
  have hin3 : ¬ ((0 : Int32) < 0 ∨ cl2.slots.size ≤ ((0 : Int32)).toNatClampNeg) := inb_of S2 ⟨by decide, by decide⟩
  obtain ⟨T3, h3, X3, e3, W3, st3⟩ := stI X1 hx hZ e1 Ar2 (j := (0 : Int32)) hin3 (g := (mkF m 9 #[rv sy, iv (1 : Int32), rv co, rv ob1, .unset, .unset, .unset, .unset] [(.int (-1 : Int32)), (.int (0 : Int32)), (.ref ob1)])) rfl rfl (hb hby d7_9)
  have V_3 : Arv Z h3 ob1 k1 .int (2 : Int32) [(.int (-1 : Int32)), (.int (0 : Int32))] (.int (0 : Int32)) := Arv.set Ar2 q2 S2 N_2 H2 G2 rfl W3 0 rfl (Nat.le_of_ble_eq_true rfl)
  have Zs3 : n0 ≤ h3.size := Nat.le_trans Zs1 (Keep.of_wr W3).1
  have N3 := Fr.snoc X3 N0 g_ob1
  refine Goes.step ?_ st3
  show Goes p e below _ (sF T3 m 10 #[rv sy, iv (1 : Int32), rv co, rv ob1, .unset, .unset, .unset, .unset] [])
  refine Goes.step ?_ (fun _ k => XS.iconst X3.here hx rfl (hb hby d7_10) k)
  show Goes p e below _ (sF T3 m 11 #[rv sy, iv (1 : Int32), rv co, rv ob1, .unset, .unset, .unset, .unset] [(.int (0 : Int32))])
  refine Goes.step ?_ (fun _ k => XS.istore X3.here hx rfl (hb hby d7_11) rfl (l' := #[rv sy, iv (1 : Int32), rv co, rv ob1, iv (0 : Int32), .unset, .unset, .unset]) rfl k)
  show Goes p e below _ (sF T3 m 13 #[rv sy, iv (1 : Int32), rv co, rv ob1, iv (0 : Int32), .unset, .unset, .unset] [])
  refine Goes.step ?_ (fun _ k => XS.lconst X3.here hx rfl (hb hby d7_13) k)
  show Goes p e below _ (sF T3 m 14 #[rv sy, iv (1 : Int32), rv co, rv ob1, iv (0 : Int32), .unset, .unset, .unset] [(.long (0 : Int64))])
  refine Goes.step ?_ (fun _ k => XS.lstore X3.here hx rfl (hb hby d7_14) rfl (l' := #[rv sy, iv (1 : Int32), rv co, rv ob1, iv (0 : Int32), .val (.long (0 : Int64)), .second, .unset]) rfl k)
  show Goes p e below _ (sF T3 m 16 #[rv sy, iv (1 : Int32), rv co, rv ob1, iv (0 : Int32), .val (.long (0 : Int64)), .second, .unset] [])
  refine Goes.step ?_ (fun _ k => XS.iconst X3.here hx rfl (hb hby d7_16) k)
  show Goes p e below _ (sF T3 m 17 #[rv sy, iv (1 : Int32), rv co, rv ob1, iv (0 : Int32), .val (.long (0 : Int64)), .second, .unset] [(.int (1 : Int32))])
  refine Goes.step ?_ (fun _ k => XS.istore X3.here hx rfl (hb hby d7_17) rfl (l' := #[rv sy, iv (1 : Int32), rv co, rv ob1, iv (0 : Int32), .val (.long (0 : Int64)), .second, iv (1 : Int32)]) rfl k)
  show Goes p e below _ (sF T3 m 19 #[rv sy, iv (1 : Int32), rv co, rv ob1, iv (0 : Int32), .val (.long (0 : Int64)), .second, iv (1 : Int32)] [])
  refine Goes.step ?_ (fun _ k => XS.iload X3.here hx rfl (hb hby d7_19) rfl  k)
  show Goes p e below _ (sF T3 m 21 #[rv sy, iv (1 : Int32), rv co, rv ob1, iv (0 : Int32), .val (.long (0 : Int64)), .second, iv (1 : Int32)] [(.int (1 : Int32))])
  refine Goes.step ?_ (fun _ k => XS.iloadN X3.here hx rfl (hb hby d7_21) rfl  k)
  show Goes p e below _ (sF T3 m 22 #[rv sy, iv (1 : Int32), rv co, rv ob1, iv (0 : Int32), .val (.long (0 : Int64)), .second, iv (1 : Int32)] [(.int (1 : Int32)), (.int (1 : Int32))])
  refine Goes.step ?_ (fun _ k => XS.icmpYes X3.here hx rfl (pc0 := 22) (pc' := 92) rfl (hb hby d7_22) rfl (flt (by decide : ¬ ((1 : Int32) < (1 : Int32)))).2.1 (by decide) (by decide) k)
  show Goes p e below _ (sF T3 m 92 #[rv sy, iv (1 : Int32), rv co, rv ob1, iv (0 : Int32), .val (.long (0 : Int64)), .second, iv (1 : Int32)] [])
  have K_4 := (((Keep.refl h0 [co]).ext E1).wr W3 (Or.inr sz_ob1))
  have F_co_count_5 := ((F_count.ext E1).other W3 (Or.inl ne_co_ob1))
  have E_co_6 := ((E_co.ext E1).wr W3)
  exact bu92_2 h0 sy co ob1 k1 b0 b1 (0 : Int32) (0 : Int64) (1 : Int32) X3 hx hZ hw hby hlk hret hml hown e3 N3 Zs3 K_4 V_3 F_co_count_5 E_co_6 ne_co_ob1 g_co sz_ob1 (by decide) (by decide)
theorem ef_bu3 (m : MethodId) (x0 : Addr) (x1 : Int32) (x2 : Addr) : entryFrame m #[(.ref x0), (.int x1), (.ref x2)] 8 = mkF m 0 #[rv x0, iv x1, rv x2, .unset, .unset, .unset, .unset, .unset] [] := by first | (simp [entryFrame, mkF, argsToLocals, Value.category]; done) | rfl
def QBu3 (Z : State) (co : Addr) (b0 b1 b2 : Int32) (h0 : Heap) (n0 : Nat) (v : Option Value) (h : Heap) (L : List Loc) : Prop := ∃ (r : Addr) (kr : ClassId) (q : Int64), v = some (.ref r) ∧ Fr n0 L ∧ Keep h0 h [co] ∧ h0.size ≤ r ∧ Arv Z h r kr .int (3 : Int32) [(.int (-1 : Int32)), (.int (0 : Int32)), (.int (lg2 b0 b1))] (.int (0 : Int32)) ∧ Fld Z h co "com/example/borderline/borderline/Comparisons" "count" "J" (.long q) ∧ ¬ (lcmpW q ((1 : Int32).toInt64)) < 0 ∧ ¬ (0 : Int32) < (lcmpW q ((2 : Int32).toInt64))
set_option maxRecDepth 65536 in
set_option maxHeartbeats 40000000 in
theorem bu92_3 {p : Program} {l : Launch} {e : Env} {s : State} {m : MethodId} {args : Array Value} {below : List Frame} {meth : Method} {c : Code} {T0 : State} {locs : List Loc} {Z : State} {a0 : Array Value} {h0 : Heap} {n0 : Nat} (hh : Heap) (sy : Addr) (co : Addr) (tb : Addr) (kt : ClassId) (b0 : Int32) (b1 : Int32) (b2 : Int32) (k : Int32) (fb : Int64) (i : Int32)
    (X0 : Stand p l e ({ frames := 2, cells := 1, slots := 3, locals := 40 } : Room) s m args below meth c T0 locs (0 + 1) (0 + 3)) (hx : p.tables.exec = Jvm.exec) (hZ : Z.Warmed39 s.vm) (hw : ∀ d ∈ tables_1, d.before a0 Z = true) (hby : c.code = prog_7_method_8_code) (hlk : meth.locks = false) (hret : meth.sig.returnType = some (.array .int)) (hml : c.maxLocals = 8) (hown : s.vm.findClass "com/example/borderline/borderline/BorderTable" = some m.cls) (e0 : T0.heap = h0) (N0 : Fr n0 locs) (Z0 : n0 ≤ h0.size) (K_0 : Keep hh h0 [co]) (V_tb : Arv Z h0 tb kt .int (3 : Int32) [(.int (-1 : Int32)), (.int (0 : Int32)), (.int (lg2 b0 b1))] (.int (0 : Int32))) (F_count : Fld Z h0 co "com/example/borderline/borderline/Comparisons" "count" "J" (.long (0 : Int64))) (E_co : Exa Z h0 co "com/example/borderline/borderline/Comparisons") (ne_co_tb : co ≠ tb) (g_co : n0 ≤ co) (sz_tb : hh.size ≤ tb) (l1 : ¬ (lcmpW ((0 : Int64) + ((maxV ((2 : Int32) - (1 : Int32)) (0 : Int32)).toInt64 + fb)) ((1 : Int32).toInt64)) < 0) (l2 : ¬ (0 : Int32) < (lcmpW ((0 : Int64) + ((maxV ((2 : Int32) - (1 : Int32)) (0 : Int32)).toInt64 + fb)) ((2 : Int32).toInt64))) :
    Goes p e below (fun o U' => ∃ v L, o = .returned v ∧ QBu3 Z co b0 b1 b2 hh n0 v U'.heap L ∧ FrameEnd s o U' L ({ frames := 2, cells := 1, slots := 3, locals := 40 } : Room).cells ({ frames := 2, cells := 1, slots := 3, locals := 40 } : Room).slots) (T0.setTop (mkF m 92 #[rv sy, iv (2 : Int32), rv co, rv tb, iv k, .val (.long fb), .second, iv i] [])) := by
  show Goes p e below _ (sF T0 m 92 #[rv sy, iv (2 : Int32), rv co, rv tb, iv k, .val (.long fb), .second, iv i] [])
  refine Goes.step ?_ (fun _ k => XS.aloadN X0.here hx rfl (hb hby d7_92) rfl rfl k)
  show Goes p e below _ (sF T0 m 93 #[rv sy, iv (2 : Int32), rv co, rv tb, iv k, .val (.long fb), .second, iv i] [(.ref co)])
  refine Goes.step ?_ (fun _ k => XS.iloadN X0.here hx rfl (hb hby d7_93) rfl  k)
  show Goes p e below _ (sF T0 m 94 #[rv sy, iv (2 : Int32), rv co, rv tb, iv k, .val (.long fb), .second, iv i] [(.int (2 : Int32)), (.ref co)])
  refine Goes.step ?_ (fun _ k => XS.iconst X0.here hx rfl (hb hby d7_94) k)
  show Goes p e below _ (sF T0 m 95 #[rv sy, iv (2 : Int32), rv co, rv tb, iv k, .val (.long fb), .second, iv i] [(.int (1 : Int32)), (.int (2 : Int32)), (.ref co)])
  refine Goes.step ?_ (fun _ k => XS.isub X0.here hx rfl (hb hby d7_95) rfl k)
  show Goes p e below _ (sF T0 m 96 #[rv sy, iv (2 : Int32), rv co, rv tb, iv k, .val (.long fb), .second, iv i] [(.int ((2 : Int32) - (1 : Int32))), (.ref co)])
  refine Goes.step ?_ (fun _ k => XS.iconst X0.here hx rfl (hb hby d7_96) k)
  show Goes p e below _ (sF T0 m 97 #[rv sy, iv (2 : Int32), rv co, rv tb, iv k, .val (.long fb), .second, iv i] [(.int (0 : Int32)), (.int ((2 : Int32) - (1 : Int32))), (.ref co)])
  obtain ⟨_, _, ⟨T1, L1, k1, n1⟩, -, X1, ⟨Lc1, hQ1, l1, y1, z1⟩, st1⟩ := Jvm.LawKit.callS X0 hx (y := (⟨"java/lang/Math", "max", "(II)I"⟩ : MethodName)) hown (mvT hZ (hw _ (List.mem_of_getElem? (i := 42) rfl))) (mvT hZ (hw _ (List.mem_of_getElem? (i := 24) rfl))) (mvT hZ (hw _ (List.mem_of_getElem? (i := 25) rfl))) (mvT hZ (hw _ (List.mem_of_getElem? (i := 26) rfl))) (by decide) (backOf (W := 1) (rmMax l Z a0 hw [] ((2 : Int32) - (1 : Int32)) (0 : Int32)  h0 n0 Z0 ) hZ (hw _ (List.mem_of_getElem? (i := 26) rfl)) (hw _ (List.mem_of_getElem? (i := 25) rfl)) (by decide) (by decide)) (g := (mkF m 97 #[rv sy, iv (2 : Int32), rv co, rv tb, iv k, .val (.long fb), .second, iv i] [(.int (0 : Int32)), (.int ((2 : Int32) - (1 : Int32))), (.ref co)])) rfl (by rw [hml]; rfl) (argsL := [(.int ((2 : Int32) - (1 : Int32))), (.int (0 : Int32))]) (rest := [(.ref co)]) (lenOf pd__28II_29I rfl) rfl (by show 2 * 0 + _ ≤ _; exact Nat.le_of_eq rfl) (hb hby d7_97) (fun _ _ => ⟨rfl, e0, (by decide : 0 + 1 + 0 ≤ _), (by decide : 0 + 3 + 0 ≤ _)⟩)
  dsimp only [Pt.U, Pt.locs, Pt.cells, Pt.slots] at X1 l1 y1 z1 st1 hQ1
  subst l1 y1 z1
  obtain ⟨rfl, N1q, e1⟩ := hQ1
  have N1 := Fr.app N0 N1q
  refine Goes.step ?_ st1
  show Goes p e below _ (sF T1 m 100 #[rv sy, iv (2 : Int32), rv co, rv tb, iv k, .val (.long fb), .second, iv i] [(.int (maxV ((2 : Int32) - (1 : Int32)) (0 : Int32))), (.ref co)])
  refine Goes.step ?_ (fun _ k => XS.i2l X1.here hx rfl (hb hby d7_100) rfl k)
  show Goes p e below _ (sF T1 m 101 #[rv sy, iv (2 : Int32), rv co, rv tb, iv k, .val (.long fb), .second, iv i] [(.long ((maxV ((2 : Int32) - (1 : Int32)) (0 : Int32)).toInt64)), (.ref co)])
  refine Goes.step ?_ (fun _ k => XS.lload X1.here hx rfl (hb hby d7_101) rfl  k)
  show Goes p e below _ (sF T1 m 103 #[rv sy, iv (2 : Int32), rv co, rv tb, iv k, .val (.long fb), .second, iv i] [(.long fb), (.long ((maxV ((2 : Int32) - (1 : Int32)) (0 : Int32)).toInt64)), (.ref co)])
  refine Goes.step ?_ (fun _ k => XS.ladd X1.here hx rfl (hb hby d7_103) rfl k)
  show Goes p e below _ (sF T1 m 104 #[rv sy, iv (2 : Int32), rv co, rv tb, iv k, .val (.long fb), .second, iv i] [(.long (((maxV ((2 : Int32) - (1 : Int32)) (0 : Int32)).toInt64) + fb)), (.ref co)])
  obtain ⟨cq2, kq2, q2a, q2b, q2c⟩ := isOf hZ e1 E_co
  obtain ⟨_, _, ⟨T2, L2, k2, n2⟩, -, X2, ⟨Lc2, hQ2, l2, y2, z2⟩, st2⟩ := X1.virtualBack hx (y := (⟨"com/example/borderline/borderline/Comparisons", "add", "(J)V"⟩ : MethodName)) (z := (⟨"com/example/borderline/borderline/Comparisons", "add", "(J)V"⟩ : MethodName)) hown (mvT hZ (hw _ (List.mem_of_getElem? (i := 43) rfl))) (mvT hZ (hw _ (List.mem_of_getElem? (i := 44) rfl))) (notFace_of_selects (args := #[]) (mvT hZ (hw _ (List.mem_of_getElem? (i := 46) rfl)))) (mvT hZ (hw _ (List.mem_of_getElem? (i := 46) rfl))) (mvT hZ (hw _ (List.mem_of_getElem? (i := 45) rfl))) (by decide) (backOf (W := 0) (rmAdd l Z a0 hw [] co (((maxV ((2 : Int32) - (1 : Int32)) (0 : Int32)).toInt64) + fb) (0 : Int64) h0 n0 Z0 F_count E_co g_co) hZ (hw _ (List.mem_of_getElem? (i := 47) rfl)) (hw _ (List.mem_of_getElem? (i := 4) rfl)) (by decide) (by decide)) q2a q2c (g := (mkF m 104 #[rv sy, iv (2 : Int32), rv co, rv tb, iv k, .val (.long fb), .second, iv i] [(.long (((maxV ((2 : Int32) - (1 : Int32)) (0 : Int32)).toInt64) + fb)), (.ref co)])) rfl (by rw [hml]; rfl) (Steps.refl _) (argsL := [(.long (((maxV ((2 : Int32) - (1 : Int32)) (0 : Int32)).toInt64) + fb))]) (rest := []) (lenOf pd__28J_29V rfl) rfl (by show 2 * 0 + _ ≤ _; exact Nat.le_of_eq rfl) (hb hby d7_104) (fun _ _ => ⟨rfl, e1, (by decide : 0 + 1 + 0 ≤ _), (by decide : 0 + 3 + 0 ≤ _)⟩)
  dsimp only [Pt.U, Pt.locs, Pt.cells, Pt.slots] at X2 l2 y2 z2 st2 hQ2
  subst l2 y2 z2
  obtain ⟨rfl, N2q, K2, G2⟩ := hQ2
  have N2 := Fr.app N1 N2q
  refine Goes.step ?_ (fun _ k => st2.trans k)
  have KK := K_0.trans K2 (allS (Or.inl (List.mem_of_getElem? (i := 0) rfl)) all0)
  have VV := V_tb.keep K2 (ninS (Ne.symm ne_co_tb) nin0)
  show Goes p e below _ (sF T2 m 107 #[rv sy, iv (2 : Int32), rv co, rv tb, iv k, .val (.long fb), .second, iv i] [])
  refine Goes.step ?_ (fun _ k => XS.aloadN X2.here hx rfl (hb hby d7_107) rfl rfl k)
  show Goes p e below _ (sF T2 m 108 #[rv sy, iv (2 : Int32), rv co, rv tb, iv k, .val (.long fb), .second, iv i] [(.ref tb)])
  refine own_out X2 hx hlk hret rfl (Or.inr (Or.inr (Or.inr (Or.inr ⟨rfl, rfl, rfl⟩)))) (hb hby d7_108) ?_ (by decide) (by decide)
  show QBu3 Z co b0 b1 b2 hh n0 _ T2.heap _
  exact ⟨tb, kt, ((0 : Int64) + (((maxV ((2 : Int32) - (1 : Int32)) (0 : Int32)).toInt64) + fb)), rfl, N2, KK, sz_tb, VV, G2, l1, l2⟩
theorem d7_25 : decode prog_7_method_8_code 25 = .ok (.iload 4, 2) := by decide +kernel
theorem d7_27 : decode prog_7_method_8_code 27 = .ok (.ifCond .le 31, 3) := by decide +kernel
theorem d7_58 : decode prog_7_method_8_code 58 = .ok (.iload 4, 2) := by decide +kernel
theorem d7_60 : decode prog_7_method_8_code 60 = .ok (.ifCond .gt 15, 3) := by decide +kernel
theorem d7_63 : decode prog_7_method_8_code 63 = .ok (.aload_n 0, 1) := by decide +kernel
theorem d7_64 : decode prog_7_method_8_code 64 = .ok (.iconst 0, 1) := by decide +kernel
theorem d7_65 : decode prog_7_method_8_code 65 = .ok (.iload 7, 2) := by decide +kernel
theorem d7_67 : decode prog_7_method_8_code 67 = .ok (.invokeinterface 35 3, 5) := by decide +kernel
theorem d7_72 : decode prog_7_method_8_code 72 = .ok (.ifCond .eq 6, 3) := by decide +kernel
theorem d7_75 : decode prog_7_method_8_code 75 = .ok (.iinc 4 1, 3) := by decide +kernel
theorem d7_78 : decode prog_7_method_8_code 78 = .ok (.aload_n 3, 1) := by decide +kernel
theorem d7_79 : decode prog_7_method_8_code 79 = .ok (.iload 7, 2) := by decide +kernel
theorem d7_81 : decode prog_7_method_8_code 81 = .ok (.iconst 1, 1) := by decide +kernel
theorem d7_82 : decode prog_7_method_8_code 82 = .ok (.iadd, 1) := by decide +kernel
theorem d7_83 : decode prog_7_method_8_code 83 = .ok (.iload 4, 2) := by decide +kernel
theorem d7_85 : decode prog_7_method_8_code 85 = .ok (.iastore, 1) := by decide +kernel
theorem d7_86 : decode prog_7_method_8_code 86 = .ok (.iinc 7 1, 3) := by decide +kernel
theorem d7_89 : decode prog_7_method_8_code 89 = .ok (.goto (-70), 3) := by decide +kernel
set_option maxRecDepth 65536 in
set_option maxHeartbeats 40000000 in
theorem rmBu3 (l : Launch) (Z : State) (a0 : Array Value) (hw : ∀ d ∈ tables_1, d.before a0 Z = true) (ws : List Jvm.Cond) (sy : Addr) (co : Addr) (cK : ClassId) (one : Option Addr) (pa : Addr) (kp : ClassId) (b0 : Int32) (b1 : Int32) (b2 : Int32) (h0 : Heap) (n0 : Nat) (Z0 : n0 ≤ h0.size) (hSame : Z.sameButNew Z [] 0 0) (hLam : Z.lambdaAt? symN 1 30 sgm = some (cK, one)) (hsy : h0[sy]? = some ({ cls := cK, slots := #[.ref pa], vm := .none } : Cell)) (V_pa : Arv Z h0 pa kp .byte (3 : Int32) [(.int b0), (.int b1), (.int b2)] (.int (0 : Int32))) (F_count : Fld Z h0 co "com/example/borderline/borderline/Comparisons" "count" "J" (.long (0 : Int64))) (E_co : Exa Z h0 co "com/example/borderline/borderline/Comparisons") (g_co : n0 ≤ co) :
    MetFree l (⟨"com/example/borderline/borderline/BorderTable", "build", "(Lcom/example/borderline/borderline/BorderTable$Symbols;ILcom/example/borderline/borderline/Comparisons;)[I"⟩ : MethodName) (head1 (Jvm.Cond.code (⟨"com/example/borderline/borderline/BorderTable", "build", "(Lcom/example/borderline/borderline/BorderTable$Symbols;ILcom/example/borderline/borderline/Comparisons;)[I"⟩ : MethodName) prog_7_method_8_code 8 (some (.array .int)) :: ws) ({ frames := 2, cells := 1, slots := 3, locals := 40 } : Room)) (fun a U => a = #[(.ref sy), (.int (2 : Int32)), (.ref co)] ∧ Z.WarmedH U.vm ∧ U.heap = h0) (fun _ _ _ _ _ => True) (fun _ U o U' => ∃ v L, o = .returned v ∧ QBu3 Z co b0 b1 b2 h0 n0 v U'.heap L ∧ FrameEnd U o U' L ({ frames := 2, cells := 1, slots := 3, locals := 40 } : Room).cells ({ frames := 2, cells := 1, slots := 3, locals := 40 } : Room).slots) := by
  refine MetFree.of_bodySF (plainFor_of_name pn_com_example_borderline_borderline_BorderTable) hisR ?_
  intro p e s m args below meth c s₁ Bd hml0 hP hK
  obtain ⟨rfl, hZH, hh⟩ := hP
  have hZ : Z.Warmed39 s.vm := hZH.wide
  have hx := Bd.exec
  have hby := Bd.bytes
  have hlk : meth.locks = false := BodyLoose.notSynchronized Bd
  have hml : c.maxLocals = 8 := hml0
  have hown : s.vm.findClass "com/example/borderline/borderline/BorderTable" = some m.cls := findClass_of_methodNamed Bd.named
  have hnm := (name_of_methodNamed Bd.named Bd.method).1
  have X0 : Stand p l e ({ frames := 2, cells := 1, slots := 3, locals := 40 } : Room) s m #[(.ref sy), (.int (2 : Int32)), (.ref co)] below meth c s₁ [] 0 0 := Stand.of_body Bd
  have e0 : s₁.heap = h0 := by rw [← hh, Bd.state]; rfl
  have N0 := Fr.nil n0
  have hret := Bd.returns
  show Goes p e below (fun o U' => ∃ v L, o = .returned v ∧ QBu3 Z co b0 b1 b2 h0 n0 v U'.heap L ∧ FrameEnd s o U' L ({ frames := 2, cells := 1, slots := 3, locals := 40 } : Room).cells ({ frames := 2, cells := 1, slots := 3, locals := 40 } : Room).slots) (s₁.setTop (entryFrame m #[(.ref sy), (.int (2 : Int32)), (.ref co)] 8))
  refine Goes.step ?_ (fun _ k => castTop (ef_bu3 m sy (2 : Int32) co) k)
  have hmd := own_made (own_lamAt hZH hSame (by decide) hLam)
  show Goes p e below _ (sF s₁ m 0 #[rv sy, iv (2 : Int32), rv co, .unset, .unset, .unset, .unset, .unset] [])
  refine Goes.step ?_ (fun _ k => XS.iloadN X0.here hx rfl (hb hby d7_0) rfl  k)
  show Goes p e below _ (sF s₁ m 1 #[rv sy, iv (2 : Int32), rv co, .unset, .unset, .unset, .unset, .unset] [(.int (2 : Int32))])
  refine Goes.step ?_ (fun _ k => XS.iconst X0.here hx rfl (hb hby d7_1) k)
  show Goes p e below _ (sF s₁ m 2 #[rv sy, iv (2 : Int32), rv co, .unset, .unset, .unset, .unset, .unset] [(.int (1 : Int32)), (.int (2 : Int32))])
  refine Goes.step ?_ (fun _ k => XS.iadd X0.here hx rfl (hb hby d7_2) rfl k)
  show Goes p e below _ (sF s₁ m 3 #[rv sy, iv (2 : Int32), rv co, .unset, .unset, .unset, .unset, .unset] [(.int ((2 : Int32) + (1 : Int32)))])
  rw [show ((2 : Int32) + (1 : Int32)) = (3 : Int32) from by decide]
  show Goes p e below _ (sF s₁ m 3 #[rv sy, iv (2 : Int32), rv co, .unset, .unset, .unset, .unset, .unset] [(.int (3 : Int32))])
  obtain ⟨T1, h1, k1, X1, e1, E1, A1, st1⟩ := newP X0 hx hZ (hw _ (List.mem_of_getElem? (i := 15) rfl)) e0 (g := (mkF m 3 #[rv sy, iv (2 : Int32), rv co, .unset, .unset, .unset, .unset, .unset] [(.int (3 : Int32))])) rfl (hb hby d7_3) rfl (by decide) (cap := 3) (by decide) (by decide) (by decide) (by decide)
  obtain ⟨ob1, g1⟩ : ∃ z, z = h0.size := ⟨_, rfl⟩
  rw [← g1] at A1 st1
  have g_ob1 : n0 ≤ ob1 := Nat.le_trans Z0 (Nat.le_of_eq g1.symm)
  have sz_ob1 : h0.size ≤ ob1 := Nat.le_trans (Keep.refl h0 [co]).1 (Nat.le_of_eq g1.symm)
  have ne_pa_ob1 : pa ≠ ob1 := Nat.ne_of_lt (Nat.lt_of_lt_of_le V_pa.lt (Nat.le_of_eq g1.symm))
  have ne_co_ob1 : co ≠ ob1 := Nat.ne_of_lt (Nat.lt_of_lt_of_le F_count.lt (Nat.le_of_eq g1.symm))
  have Zs1 : n0 ≤ h1.size := Nat.le_trans Z0 E1.1
  refine Goes.step ?_ st1
  have V_ob1 : Arv Z h1 ob1 k1 .int (3 : Int32) [(.int (0 : Int32)), (.int (0 : Int32)), (.int (0 : Int32))] (.int (0 : Int32)) := (Arv.new A1 (by decide)).pad (pad_rep [] (.int (0 : Int32)) 3)
  have ne_sy_ob1 : sy ≠ ob1 := Nat.ne_of_lt (Nat.lt_of_lt_of_le (Array.getElem?_eq_some_iff.mp hsy).1 (Nat.le_of_eq g1.symm))
  show Goes p e below _ (sF T1 m 5 #[rv sy, iv (2 : Int32), rv co, .unset, .unset, .unset, .unset, .unset] [(.ref ob1)])
  refine Goes.step ?_ (fun _ k => XS.astoreN X1.here hx rfl (hb hby d7_5) rfl rfl (l' := #[rv sy, iv (2 : Int32), rv co, rv ob1, .unset, .unset, .unset, .unset]) rfl k)
  show Goes p e below _ (sF T1 m 6 #[rv sy, iv (2 : Int32), rv co, rv ob1, .unset, .unset, .unset, .unset] [])
  refine Goes.step ?_ (fun _ k => XS.aloadN X1.here hx rfl (hb hby d7_6) rfl rfl k)
  show Goes p e below _ (sF T1 m 7 #[rv sy, iv (2 : Int32), rv co, rv ob1, .unset, .unset, .unset, .unset] [(.ref ob1)])
  refine Goes.step ?_ (fun _ k => XS.iconst X1.here hx rfl (hb hby d7_7) k)
  show Goes p e below _ (sF T1 m 8 #[rv sy, iv (2 : Int32), rv co, rv ob1, .unset, .unset, .unset, .unset] [(.int (0 : Int32)), (.ref ob1)])
  refine Goes.step ?_ (fun _ k => XS.iconst X1.here hx rfl (hb hby d7_8) k)
  show Goes p e below _ (sF T1 m 9 #[rv sy, iv (2 : Int32), rv co, rv ob1, .unset, .unset, .unset, .unset] [(.int (-1 : Int32)), (.int (0 : Int32)), (.ref ob1)])
  obtain ⟨cl2, Ar2, q2, S2, N_2, H2, G2⟩ := id V_ob1
  have hin3 : ¬ ((0 : Int32) < 0 ∨ cl2.slots.size ≤ ((0 : Int32)).toNatClampNeg) := inb_of S2 ⟨by decide, by decide⟩
  obtain ⟨T3, h3, X3, e3, W3, st3⟩ := stI X1 hx hZ e1 Ar2 (j := (0 : Int32)) hin3 (g := (mkF m 9 #[rv sy, iv (2 : Int32), rv co, rv ob1, .unset, .unset, .unset, .unset] [(.int (-1 : Int32)), (.int (0 : Int32)), (.ref ob1)])) rfl rfl (hb hby d7_9)
  have V_3 : Arv Z h3 ob1 k1 .int (3 : Int32) [(.int (-1 : Int32)), (.int (0 : Int32)), (.int (0 : Int32))] (.int (0 : Int32)) := Arv.set Ar2 q2 S2 N_2 H2 G2 rfl W3 0 rfl (Nat.le_of_ble_eq_true rfl)
  have Zs3 : n0 ≤ h3.size := Nat.le_trans Zs1 (Keep.of_wr W3).1
  have N3 := Fr.snoc X3 N0 g_ob1
  refine Goes.step ?_ st3
  show Goes p e below _ (sF T3 m 10 #[rv sy, iv (2 : Int32), rv co, rv ob1, .unset, .unset, .unset, .unset] [])
  refine Goes.step ?_ (fun _ k => XS.iconst X3.here hx rfl (hb hby d7_10) k)
  show Goes p e below _ (sF T3 m 11 #[rv sy, iv (2 : Int32), rv co, rv ob1, .unset, .unset, .unset, .unset] [(.int (0 : Int32))])
  refine Goes.step ?_ (fun _ k => XS.istore X3.here hx rfl (hb hby d7_11) rfl (l' := #[rv sy, iv (2 : Int32), rv co, rv ob1, iv (0 : Int32), .unset, .unset, .unset]) rfl k)
  show Goes p e below _ (sF T3 m 13 #[rv sy, iv (2 : Int32), rv co, rv ob1, iv (0 : Int32), .unset, .unset, .unset] [])
  refine Goes.step ?_ (fun _ k => XS.lconst X3.here hx rfl (hb hby d7_13) k)
  show Goes p e below _ (sF T3 m 14 #[rv sy, iv (2 : Int32), rv co, rv ob1, iv (0 : Int32), .unset, .unset, .unset] [(.long (0 : Int64))])
  refine Goes.step ?_ (fun _ k => XS.lstore X3.here hx rfl (hb hby d7_14) rfl (l' := #[rv sy, iv (2 : Int32), rv co, rv ob1, iv (0 : Int32), .val (.long (0 : Int64)), .second, .unset]) rfl k)
  show Goes p e below _ (sF T3 m 16 #[rv sy, iv (2 : Int32), rv co, rv ob1, iv (0 : Int32), .val (.long (0 : Int64)), .second, .unset] [])
  refine Goes.step ?_ (fun _ k => XS.iconst X3.here hx rfl (hb hby d7_16) k)
  show Goes p e below _ (sF T3 m 17 #[rv sy, iv (2 : Int32), rv co, rv ob1, iv (0 : Int32), .val (.long (0 : Int64)), .second, .unset] [(.int (1 : Int32))])
  refine Goes.step ?_ (fun _ k => XS.istore X3.here hx rfl (hb hby d7_17) rfl (l' := #[rv sy, iv (2 : Int32), rv co, rv ob1, iv (0 : Int32), .val (.long (0 : Int64)), .second, iv (1 : Int32)]) rfl k)
  show Goes p e below _ (sF T3 m 19 #[rv sy, iv (2 : Int32), rv co, rv ob1, iv (0 : Int32), .val (.long (0 : Int64)), .second, iv (1 : Int32)] [])
  refine Goes.step ?_ (fun _ k => XS.iload X3.here hx rfl (hb hby d7_19) rfl  k)
  show Goes p e below _ (sF T3 m 21 #[rv sy, iv (2 : Int32), rv co, rv ob1, iv (0 : Int32), .val (.long (0 : Int64)), .second, iv (1 : Int32)] [(.int (1 : Int32))])
  refine Goes.step ?_ (fun _ k => XS.iloadN X3.here hx rfl (hb hby d7_21) rfl  k)
  show Goes p e below _ (sF T3 m 22 #[rv sy, iv (2 : Int32), rv co, rv ob1, iv (0 : Int32), .val (.long (0 : Int64)), .second, iv (1 : Int32)] [(.int (2 : Int32)), (.int (1 : Int32))])
  refine Goes.step ?_ (fun _ k => XS.icmpNo X3.here hx rfl (hb hby d7_22) rfl (tlt (by decide : (1 : Int32) < (2 : Int32))).2.1 k)
  show Goes p e below _ (sF T3 m 25 #[rv sy, iv (2 : Int32), rv co, rv ob1, iv (0 : Int32), .val (.long (0 : Int64)), .second, iv (1 : Int32)] [])
  refine Goes.step ?_ (fun _ k => XS.iload X3.here hx rfl (hb hby d7_25) rfl  k)
  show Goes p e below _ (sF T3 m 27 #[rv sy, iv (2 : Int32), rv co, rv ob1, iv (0 : Int32), .val (.long (0 : Int64)), .second, iv (1 : Int32)] [(.int (0 : Int32))])
  refine Goes.step ?_ (fun _ k => XS.ifYes X3.here hx rfl (pc0 := 27) (pc' := 58) rfl (hb hby d7_27) rfl ((if0 _ _).trans (flt (by decide : ¬ ((0 : Int32) < (0 : Int32)))).2.2.2) (by decide) (by decide) k)
  show Goes p e below _ (sF T3 m 58 #[rv sy, iv (2 : Int32), rv co, rv ob1, iv (0 : Int32), .val (.long (0 : Int64)), .second, iv (1 : Int32)] [])
  refine Goes.step ?_ (fun _ k => XS.iload X3.here hx rfl (hb hby d7_58) rfl  k)
  show Goes p e below _ (sF T3 m 60 #[rv sy, iv (2 : Int32), rv co, rv ob1, iv (0 : Int32), .val (.long (0 : Int64)), .second, iv (1 : Int32)] [(.int (0 : Int32))])
  refine Goes.step ?_ (fun _ k => XS.ifNo X3.here hx rfl (hb hby d7_60) rfl ((if0 _ _).trans (flt (by decide : ¬ ((0 : Int32) < (0 : Int32)))).2.2.1) k)
  show Goes p e below _ (sF T3 m 63 #[rv sy, iv (2 : Int32), rv co, rv ob1, iv (0 : Int32), .val (.long (0 : Int64)), .second, iv (1 : Int32)] [])
  refine Goes.step ?_ (fun _ k => XS.aloadN X3.here hx rfl (hb hby d7_63) rfl rfl k)
  show Goes p e below _ (sF T3 m 64 #[rv sy, iv (2 : Int32), rv co, rv ob1, iv (0 : Int32), .val (.long (0 : Int64)), .second, iv (1 : Int32)] [(.ref sy)])
  refine Goes.step ?_ (fun _ k => XS.iconst X3.here hx rfl (hb hby d7_64) k)
  show Goes p e below _ (sF T3 m 65 #[rv sy, iv (2 : Int32), rv co, rv ob1, iv (0 : Int32), .val (.long (0 : Int64)), .second, iv (1 : Int32)] [(.int (0 : Int32)), (.ref sy)])
  refine Goes.step ?_ (fun _ k => XS.iload X3.here hx rfl (hb hby d7_65) rfl  k)
  show Goes p e below _ (sF T3 m 67 #[rv sy, iv (2 : Int32), rv co, rv ob1, iv (0 : Int32), .val (.long (0 : Int64)), .second, iv (1 : Int32)] [(.int (1 : Int32)), (.int (0 : Int32)), (.ref sy)])
  by_cases hq01_4 : b0 = b1
  · have hsy5 : h3[sy]? = some ({ cls := cK, slots := #[.ref pa], vm := .none } : Cell) := ((Keep.of_wr W3).2.1 _ _ (E1.2 _ _ hsy) (ninS ne_sy_ob1 nin0))
    have V_pa_6 := ((V_pa.ext E1).other W3 ne_pa_ob1)
    obtain ⟨T5, L5, X5, e5, N5, st5⟩ := own_same X3 hx hZ hw hown hmd e3 N3 Zs3 hsy5 V_pa_6 (i := (0 : Int32)) (j := (1 : Int32)) (r := (1 : Int32)) ⟨by decide, by decide⟩ ⟨by decide, by decide⟩ rfl rfl (by simp [hq01_4]) rfl (g := (mkF m 67 #[rv sy, iv (2 : Int32), rv co, rv ob1, iv (0 : Int32), .val (.long (0 : Int64)), .second, iv (1 : Int32)] [(.int (1 : Int32)), (.int (0 : Int32)), (.ref sy)])) rfl (by rw [hml]; rfl) rfl rfl (hb hby d7_67) (by decide) (by decide) (by decide) (by decide)
    refine Goes.step ?_ st5
    show Goes p e below _ (sF T5 m 72 #[rv sy, iv (2 : Int32), rv co, rv ob1, iv (0 : Int32), .val (.long (0 : Int64)), .second, iv (1 : Int32)] [(.int (1 : Int32))])
    refine Goes.step ?_ (fun _ k => XS.ifNo X5.here hx rfl (hb hby d7_72) rfl ((if0 _ _).trans (feq (by decide : ¬ ((1 : Int32) = (0 : Int32)))).1) k)
    show Goes p e below _ (sF T5 m 75 #[rv sy, iv (2 : Int32), rv co, rv ob1, iv (0 : Int32), .val (.long (0 : Int64)), .second, iv (1 : Int32)] [])
    refine Goes.step ?_ (fun _ k => XS.iinc X5.here hx rfl (hb hby d7_75) rfl (l' := #[rv sy, iv (2 : Int32), rv co, rv ob1, iv ((0 : Int32) + (1 : Int32)), .val (.long (0 : Int64)), .second, iv (1 : Int32)]) rfl k)
    show Goes p e below _ (sF T5 m 78 #[rv sy, iv (2 : Int32), rv co, rv ob1, iv ((0 : Int32) + (1 : Int32)), .val (.long (0 : Int64)), .second, iv (1 : Int32)] [])
    rw [show ((0 : Int32) + (1 : Int32)) = (1 : Int32) from by decide]
    show Goes p e below _ (sF T5 m 78 #[rv sy, iv (2 : Int32), rv co, rv ob1, iv (1 : Int32), .val (.long (0 : Int64)), .second, iv (1 : Int32)] [])
    refine Goes.step ?_ (fun _ k => XS.aloadN X5.here hx rfl (hb hby d7_78) rfl rfl k)
    show Goes p e below _ (sF T5 m 79 #[rv sy, iv (2 : Int32), rv co, rv ob1, iv (1 : Int32), .val (.long (0 : Int64)), .second, iv (1 : Int32)] [(.ref ob1)])
    refine Goes.step ?_ (fun _ k => XS.iload X5.here hx rfl (hb hby d7_79) rfl  k)
    show Goes p e below _ (sF T5 m 81 #[rv sy, iv (2 : Int32), rv co, rv ob1, iv (1 : Int32), .val (.long (0 : Int64)), .second, iv (1 : Int32)] [(.int (1 : Int32)), (.ref ob1)])
    refine Goes.step ?_ (fun _ k => XS.iconst X5.here hx rfl (hb hby d7_81) k)
    show Goes p e below _ (sF T5 m 82 #[rv sy, iv (2 : Int32), rv co, rv ob1, iv (1 : Int32), .val (.long (0 : Int64)), .second, iv (1 : Int32)] [(.int (1 : Int32)), (.int (1 : Int32)), (.ref ob1)])
    refine Goes.step ?_ (fun _ k => XS.iadd X5.here hx rfl (hb hby d7_82) rfl k)
    show Goes p e below _ (sF T5 m 83 #[rv sy, iv (2 : Int32), rv co, rv ob1, iv (1 : Int32), .val (.long (0 : Int64)), .second, iv (1 : Int32)] [(.int ((1 : Int32) + (1 : Int32))), (.ref ob1)])
    rw [show ((1 : Int32) + (1 : Int32)) = (2 : Int32) from by decide]
    show Goes p e below _ (sF T5 m 83 #[rv sy, iv (2 : Int32), rv co, rv ob1, iv (1 : Int32), .val (.long (0 : Int64)), .second, iv (1 : Int32)] [(.int (2 : Int32)), (.ref ob1)])
    refine Goes.step ?_ (fun _ k => XS.iload X5.here hx rfl (hb hby d7_83) rfl  k)
    show Goes p e below _ (sF T5 m 85 #[rv sy, iv (2 : Int32), rv co, rv ob1, iv (1 : Int32), .val (.long (0 : Int64)), .second, iv (1 : Int32)] [(.int (1 : Int32)), (.int (2 : Int32)), (.ref ob1)])
    obtain ⟨cl7, Ar7, q7, S7, N_7, H7, G7⟩ := id V_3
    have hin8 : ¬ ((2 : Int32) < 0 ∨ cl7.slots.size ≤ ((2 : Int32)).toNatClampNeg) := inb_of S7 ⟨by decide, by decide⟩
    obtain ⟨T8, h8, X8, e8, W8, st8⟩ := stI X5 hx hZ e5 Ar7 (j := (2 : Int32)) hin8 (g := (mkF m 85 #[rv sy, iv (2 : Int32), rv co, rv ob1, iv (1 : Int32), .val (.long (0 : Int64)), .second, iv (1 : Int32)] [(.int (1 : Int32)), (.int (2 : Int32)), (.ref ob1)])) rfl rfl (hb hby d7_85)
    have V_8 : Arv Z h8 ob1 k1 .int (3 : Int32) [(.int (-1 : Int32)), (.int (0 : Int32)), (.int (1 : Int32))] (.int (0 : Int32)) := Arv.set Ar7 q7 S7 N_7 H7 G7 rfl W8 2 rfl (Nat.le_of_ble_eq_true rfl)
    have Zs8 : n0 ≤ h8.size := Nat.le_trans Zs3 (Keep.of_wr W8).1
    have N8 := Fr.snoc X8 N5 g_ob1
    refine Goes.step ?_ st8
    show Goes p e below _ (sF T8 m 86 #[rv sy, iv (2 : Int32), rv co, rv ob1, iv (1 : Int32), .val (.long (0 : Int64)), .second, iv (1 : Int32)] [])
    refine Goes.step ?_ (fun _ k => XS.iinc X8.here hx rfl (hb hby d7_86) rfl (l' := #[rv sy, iv (2 : Int32), rv co, rv ob1, iv (1 : Int32), .val (.long (0 : Int64)), .second, iv ((1 : Int32) + (1 : Int32))]) rfl k)
    show Goes p e below _ (sF T8 m 89 #[rv sy, iv (2 : Int32), rv co, rv ob1, iv (1 : Int32), .val (.long (0 : Int64)), .second, iv ((1 : Int32) + (1 : Int32))] [])
    rw [show ((1 : Int32) + (1 : Int32)) = (2 : Int32) from by decide]
    show Goes p e below _ (sF T8 m 89 #[rv sy, iv (2 : Int32), rv co, rv ob1, iv (1 : Int32), .val (.long (0 : Int64)), .second, iv (2 : Int32)] [])
    refine Goes.step ?_ (fun _ k => XS.goto X8.here hx rfl (pc0 := 89) (pc' := 19) rfl (hb hby d7_89) (by decide) (by decide) k)
    show Goes p e below _ (sF T8 m 19 #[rv sy, iv (2 : Int32), rv co, rv ob1, iv (1 : Int32), .val (.long (0 : Int64)), .second, iv (2 : Int32)] [])
    refine Goes.step ?_ (fun _ k => XS.iload X8.here hx rfl (hb hby d7_19) rfl  k)
    show Goes p e below _ (sF T8 m 21 #[rv sy, iv (2 : Int32), rv co, rv ob1, iv (1 : Int32), .val (.long (0 : Int64)), .second, iv (2 : Int32)] [(.int (2 : Int32))])
    refine Goes.step ?_ (fun _ k => XS.iloadN X8.here hx rfl (hb hby d7_21) rfl  k)
    show Goes p e below _ (sF T8 m 22 #[rv sy, iv (2 : Int32), rv co, rv ob1, iv (1 : Int32), .val (.long (0 : Int64)), .second, iv (2 : Int32)] [(.int (2 : Int32)), (.int (2 : Int32))])
    refine Goes.step ?_ (fun _ k => XS.icmpYes X8.here hx rfl (pc0 := 22) (pc' := 92) rfl (hb hby d7_22) rfl (flt (by decide : ¬ ((2 : Int32) < (2 : Int32)))).2.1 (by decide) (by decide) k)
    show Goes p e below _ (sF T8 m 92 #[rv sy, iv (2 : Int32), rv co, rv ob1, iv (1 : Int32), .val (.long (0 : Int64)), .second, iv (2 : Int32)] [])
    have t2 : (lg2 b0 b1) = (1 : Int32) := by simp only [lg2]; (first | (simp [hq01_4]; done) | (simp_all; done) | grind)
    rw [show ([(.int (-1 : Int32)), (.int (0 : Int32)), (.int (1 : Int32))] : List Value) = [(.int (-1 : Int32)), (.int (0 : Int32)), (.int (lg2 b0 b1))] from by rw [t2]] at V_8
    have K_9 := ((((Keep.refl h0 [co]).ext E1).wr W3 (Or.inr sz_ob1)).wr W8 (Or.inr sz_ob1))
    have F_co_count_10 := (((F_count.ext E1).other W3 (Or.inl ne_co_ob1)).other W8 (Or.inl ne_co_ob1))
    have E_co_11 := (((E_co.ext E1).wr W3).wr W8)
    exact bu92_3 h0 sy co ob1 k1 b0 b1 b2 (1 : Int32) (0 : Int64) (2 : Int32) X8 hx hZ hw hby hlk hret hml hown e8 N8 Zs8 K_9 V_8 F_co_count_10 E_co_11 ne_co_ob1 g_co sz_ob1 (by decide) (by decide)
  · have hsy12 : h3[sy]? = some ({ cls := cK, slots := #[.ref pa], vm := .none } : Cell) := ((Keep.of_wr W3).2.1 _ _ (E1.2 _ _ hsy) (ninS ne_sy_ob1 nin0))
    have V_pa_13 := ((V_pa.ext E1).other W3 ne_pa_ob1)
    obtain ⟨T12, L12, X12, e12, N12, st12⟩ := own_same X3 hx hZ hw hown hmd e3 N3 Zs3 hsy12 V_pa_13 (i := (0 : Int32)) (j := (1 : Int32)) (r := (0 : Int32)) ⟨by decide, by decide⟩ ⟨by decide, by decide⟩ rfl rfl (by simp [hq01_4]) rfl (g := (mkF m 67 #[rv sy, iv (2 : Int32), rv co, rv ob1, iv (0 : Int32), .val (.long (0 : Int64)), .second, iv (1 : Int32)] [(.int (1 : Int32)), (.int (0 : Int32)), (.ref sy)])) rfl (by rw [hml]; rfl) rfl rfl (hb hby d7_67) (by decide) (by decide) (by decide) (by decide)
    refine Goes.step ?_ st12
    show Goes p e below _ (sF T12 m 72 #[rv sy, iv (2 : Int32), rv co, rv ob1, iv (0 : Int32), .val (.long (0 : Int64)), .second, iv (1 : Int32)] [(.int (0 : Int32))])
    refine Goes.step ?_ (fun _ k => XS.ifYes X12.here hx rfl (pc0 := 72) (pc' := 78) rfl (hb hby d7_72) rfl ((if0 _ _).trans (teq (by decide : (0 : Int32) = (0 : Int32))).1) (by decide) (by decide) k)
    show Goes p e below _ (sF T12 m 78 #[rv sy, iv (2 : Int32), rv co, rv ob1, iv (0 : Int32), .val (.long (0 : Int64)), .second, iv (1 : Int32)] [])
    refine Goes.step ?_ (fun _ k => XS.aloadN X12.here hx rfl (hb hby d7_78) rfl rfl k)
    show Goes p e below _ (sF T12 m 79 #[rv sy, iv (2 : Int32), rv co, rv ob1, iv (0 : Int32), .val (.long (0 : Int64)), .second, iv (1 : Int32)] [(.ref ob1)])
    refine Goes.step ?_ (fun _ k => XS.iload X12.here hx rfl (hb hby d7_79) rfl  k)
    show Goes p e below _ (sF T12 m 81 #[rv sy, iv (2 : Int32), rv co, rv ob1, iv (0 : Int32), .val (.long (0 : Int64)), .second, iv (1 : Int32)] [(.int (1 : Int32)), (.ref ob1)])
    refine Goes.step ?_ (fun _ k => XS.iconst X12.here hx rfl (hb hby d7_81) k)
    show Goes p e below _ (sF T12 m 82 #[rv sy, iv (2 : Int32), rv co, rv ob1, iv (0 : Int32), .val (.long (0 : Int64)), .second, iv (1 : Int32)] [(.int (1 : Int32)), (.int (1 : Int32)), (.ref ob1)])
    refine Goes.step ?_ (fun _ k => XS.iadd X12.here hx rfl (hb hby d7_82) rfl k)
    show Goes p e below _ (sF T12 m 83 #[rv sy, iv (2 : Int32), rv co, rv ob1, iv (0 : Int32), .val (.long (0 : Int64)), .second, iv (1 : Int32)] [(.int ((1 : Int32) + (1 : Int32))), (.ref ob1)])
    rw [show ((1 : Int32) + (1 : Int32)) = (2 : Int32) from by decide]
    show Goes p e below _ (sF T12 m 83 #[rv sy, iv (2 : Int32), rv co, rv ob1, iv (0 : Int32), .val (.long (0 : Int64)), .second, iv (1 : Int32)] [(.int (2 : Int32)), (.ref ob1)])
    refine Goes.step ?_ (fun _ k => XS.iload X12.here hx rfl (hb hby d7_83) rfl  k)
    show Goes p e below _ (sF T12 m 85 #[rv sy, iv (2 : Int32), rv co, rv ob1, iv (0 : Int32), .val (.long (0 : Int64)), .second, iv (1 : Int32)] [(.int (0 : Int32)), (.int (2 : Int32)), (.ref ob1)])
    obtain ⟨cl14, Ar14, q14, S14, N_14, H14, G14⟩ := id V_3
    have hin15 : ¬ ((2 : Int32) < 0 ∨ cl14.slots.size ≤ ((2 : Int32)).toNatClampNeg) := inb_of S14 ⟨by decide, by decide⟩
    obtain ⟨T15, h15, X15, e15, W15, st15⟩ := stI X12 hx hZ e12 Ar14 (j := (2 : Int32)) hin15 (g := (mkF m 85 #[rv sy, iv (2 : Int32), rv co, rv ob1, iv (0 : Int32), .val (.long (0 : Int64)), .second, iv (1 : Int32)] [(.int (0 : Int32)), (.int (2 : Int32)), (.ref ob1)])) rfl rfl (hb hby d7_85)
    have V_15 : Arv Z h15 ob1 k1 .int (3 : Int32) [(.int (-1 : Int32)), (.int (0 : Int32)), (.int (0 : Int32))] (.int (0 : Int32)) := Arv.set Ar14 q14 S14 N_14 H14 G14 rfl W15 2 rfl (Nat.le_of_ble_eq_true rfl)
    have Zs15 : n0 ≤ h15.size := Nat.le_trans Zs3 (Keep.of_wr W15).1
    have N15 := Fr.snoc X15 N12 g_ob1
    refine Goes.step ?_ st15
    show Goes p e below _ (sF T15 m 86 #[rv sy, iv (2 : Int32), rv co, rv ob1, iv (0 : Int32), .val (.long (0 : Int64)), .second, iv (1 : Int32)] [])
    refine Goes.step ?_ (fun _ k => XS.iinc X15.here hx rfl (hb hby d7_86) rfl (l' := #[rv sy, iv (2 : Int32), rv co, rv ob1, iv (0 : Int32), .val (.long (0 : Int64)), .second, iv ((1 : Int32) + (1 : Int32))]) rfl k)
    show Goes p e below _ (sF T15 m 89 #[rv sy, iv (2 : Int32), rv co, rv ob1, iv (0 : Int32), .val (.long (0 : Int64)), .second, iv ((1 : Int32) + (1 : Int32))] [])
    rw [show ((1 : Int32) + (1 : Int32)) = (2 : Int32) from by decide]
    show Goes p e below _ (sF T15 m 89 #[rv sy, iv (2 : Int32), rv co, rv ob1, iv (0 : Int32), .val (.long (0 : Int64)), .second, iv (2 : Int32)] [])
    refine Goes.step ?_ (fun _ k => XS.goto X15.here hx rfl (pc0 := 89) (pc' := 19) rfl (hb hby d7_89) (by decide) (by decide) k)
    show Goes p e below _ (sF T15 m 19 #[rv sy, iv (2 : Int32), rv co, rv ob1, iv (0 : Int32), .val (.long (0 : Int64)), .second, iv (2 : Int32)] [])
    refine Goes.step ?_ (fun _ k => XS.iload X15.here hx rfl (hb hby d7_19) rfl  k)
    show Goes p e below _ (sF T15 m 21 #[rv sy, iv (2 : Int32), rv co, rv ob1, iv (0 : Int32), .val (.long (0 : Int64)), .second, iv (2 : Int32)] [(.int (2 : Int32))])
    refine Goes.step ?_ (fun _ k => XS.iloadN X15.here hx rfl (hb hby d7_21) rfl  k)
    show Goes p e below _ (sF T15 m 22 #[rv sy, iv (2 : Int32), rv co, rv ob1, iv (0 : Int32), .val (.long (0 : Int64)), .second, iv (2 : Int32)] [(.int (2 : Int32)), (.int (2 : Int32))])
    refine Goes.step ?_ (fun _ k => XS.icmpYes X15.here hx rfl (pc0 := 22) (pc' := 92) rfl (hb hby d7_22) rfl (flt (by decide : ¬ ((2 : Int32) < (2 : Int32)))).2.1 (by decide) (by decide) k)
    show Goes p e below _ (sF T15 m 92 #[rv sy, iv (2 : Int32), rv co, rv ob1, iv (0 : Int32), .val (.long (0 : Int64)), .second, iv (2 : Int32)] [])
    have t2 : (lg2 b0 b1) = (0 : Int32) := by simp only [lg2]; (first | (simp [hq01_4]; done) | (simp_all; done) | grind)
    rw [show ([(.int (-1 : Int32)), (.int (0 : Int32)), (.int (0 : Int32))] : List Value) = [(.int (-1 : Int32)), (.int (0 : Int32)), (.int (lg2 b0 b1))] from by rw [t2]] at V_15
    have K_16 := ((((Keep.refl h0 [co]).ext E1).wr W3 (Or.inr sz_ob1)).wr W15 (Or.inr sz_ob1))
    have F_co_count_17 := (((F_count.ext E1).other W3 (Or.inl ne_co_ob1)).other W15 (Or.inl ne_co_ob1))
    have E_co_18 := (((E_co.ext E1).wr W3).wr W15)
    exact bu92_3 h0 sy co ob1 k1 b0 b1 b2 (0 : Int32) (0 : Int64) (2 : Int32) X15 hx hZ hw hby hlk hret hml hown e15 N15 Zs15 K_16 V_15 F_co_count_17 E_co_18 ne_co_ob1 g_co sz_ob1 (by decide) (by decide)
theorem ef_bu4 (m : MethodId) (x0 : Addr) (x1 : Int32) (x2 : Addr) : entryFrame m #[(.ref x0), (.int x1), (.ref x2)] 8 = mkF m 0 #[rv x0, iv x1, rv x2, .unset, .unset, .unset, .unset, .unset] [] := by first | (simp [entryFrame, mkF, argsToLocals, Value.category]; done) | rfl
def QBu4 (Z : State) (co : Addr) (b0 b1 b2 b3 : Int32) (h0 : Heap) (n0 : Nat) (v : Option Value) (h : Heap) (L : List Loc) : Prop := ∃ (r : Addr) (kr : ClassId) (q : Int64), v = some (.ref r) ∧ Fr n0 L ∧ Keep h0 h [co] ∧ h0.size ≤ r ∧ Arv Z h r kr .int (4 : Int32) [(.int (-1 : Int32)), (.int (0 : Int32)), (.int (lg2 b0 b1)), (.int (lg3 b0 b1 b2))] (.int (0 : Int32)) ∧ Fld Z h co "com/example/borderline/borderline/Comparisons" "count" "J" (.long q) ∧ ¬ (lcmpW q ((2 : Int32).toInt64)) < 0 ∧ ¬ (0 : Int32) < (lcmpW q ((4 : Int32).toInt64))
set_option maxRecDepth 65536 in
set_option maxHeartbeats 40000000 in
theorem bu92_4 {p : Program} {l : Launch} {e : Env} {s : State} {m : MethodId} {args : Array Value} {below : List Frame} {meth : Method} {c : Code} {T0 : State} {locs : List Loc} {Z : State} {a0 : Array Value} {h0 : Heap} {n0 : Nat} (hh : Heap) (sy : Addr) (co : Addr) (tb : Addr) (kt : ClassId) (b0 : Int32) (b1 : Int32) (b2 : Int32) (b3 : Int32) (k : Int32) (fb : Int64) (i : Int32)
    (X0 : Stand p l e ({ frames := 2, cells := 1, slots := 4, locals := 40 } : Room) s m args below meth c T0 locs (0 + 1) (0 + 4)) (hx : p.tables.exec = Jvm.exec) (hZ : Z.Warmed39 s.vm) (hw : ∀ d ∈ tables_1, d.before a0 Z = true) (hby : c.code = prog_7_method_8_code) (hlk : meth.locks = false) (hret : meth.sig.returnType = some (.array .int)) (hml : c.maxLocals = 8) (hown : s.vm.findClass "com/example/borderline/borderline/BorderTable" = some m.cls) (e0 : T0.heap = h0) (N0 : Fr n0 locs) (Z0 : n0 ≤ h0.size) (K_0 : Keep hh h0 [co]) (V_tb : Arv Z h0 tb kt .int (4 : Int32) [(.int (-1 : Int32)), (.int (0 : Int32)), (.int (lg2 b0 b1)), (.int (lg3 b0 b1 b2))] (.int (0 : Int32))) (F_count : Fld Z h0 co "com/example/borderline/borderline/Comparisons" "count" "J" (.long (0 : Int64))) (E_co : Exa Z h0 co "com/example/borderline/borderline/Comparisons") (ne_co_tb : co ≠ tb) (g_co : n0 ≤ co) (sz_tb : hh.size ≤ tb) (l1 : ¬ (lcmpW ((0 : Int64) + ((maxV ((3 : Int32) - (1 : Int32)) (0 : Int32)).toInt64 + fb)) ((2 : Int32).toInt64)) < 0) (l2 : ¬ (0 : Int32) < (lcmpW ((0 : Int64) + ((maxV ((3 : Int32) - (1 : Int32)) (0 : Int32)).toInt64 + fb)) ((4 : Int32).toInt64))) :
    Goes p e below (fun o U' => ∃ v L, o = .returned v ∧ QBu4 Z co b0 b1 b2 b3 hh n0 v U'.heap L ∧ FrameEnd s o U' L ({ frames := 2, cells := 1, slots := 4, locals := 40 } : Room).cells ({ frames := 2, cells := 1, slots := 4, locals := 40 } : Room).slots) (T0.setTop (mkF m 92 #[rv sy, iv (3 : Int32), rv co, rv tb, iv k, .val (.long fb), .second, iv i] [])) := by
  show Goes p e below _ (sF T0 m 92 #[rv sy, iv (3 : Int32), rv co, rv tb, iv k, .val (.long fb), .second, iv i] [])
  refine Goes.step ?_ (fun _ k => XS.aloadN X0.here hx rfl (hb hby d7_92) rfl rfl k)
  show Goes p e below _ (sF T0 m 93 #[rv sy, iv (3 : Int32), rv co, rv tb, iv k, .val (.long fb), .second, iv i] [(.ref co)])
  refine Goes.step ?_ (fun _ k => XS.iloadN X0.here hx rfl (hb hby d7_93) rfl  k)
  show Goes p e below _ (sF T0 m 94 #[rv sy, iv (3 : Int32), rv co, rv tb, iv k, .val (.long fb), .second, iv i] [(.int (3 : Int32)), (.ref co)])
  refine Goes.step ?_ (fun _ k => XS.iconst X0.here hx rfl (hb hby d7_94) k)
  show Goes p e below _ (sF T0 m 95 #[rv sy, iv (3 : Int32), rv co, rv tb, iv k, .val (.long fb), .second, iv i] [(.int (1 : Int32)), (.int (3 : Int32)), (.ref co)])
  refine Goes.step ?_ (fun _ k => XS.isub X0.here hx rfl (hb hby d7_95) rfl k)
  show Goes p e below _ (sF T0 m 96 #[rv sy, iv (3 : Int32), rv co, rv tb, iv k, .val (.long fb), .second, iv i] [(.int ((3 : Int32) - (1 : Int32))), (.ref co)])
  refine Goes.step ?_ (fun _ k => XS.iconst X0.here hx rfl (hb hby d7_96) k)
  show Goes p e below _ (sF T0 m 97 #[rv sy, iv (3 : Int32), rv co, rv tb, iv k, .val (.long fb), .second, iv i] [(.int (0 : Int32)), (.int ((3 : Int32) - (1 : Int32))), (.ref co)])
  obtain ⟨_, _, ⟨T1, L1, k1, n1⟩, -, X1, ⟨Lc1, hQ1, l1, y1, z1⟩, st1⟩ := Jvm.LawKit.callS X0 hx (y := (⟨"java/lang/Math", "max", "(II)I"⟩ : MethodName)) hown (mvT hZ (hw _ (List.mem_of_getElem? (i := 42) rfl))) (mvT hZ (hw _ (List.mem_of_getElem? (i := 24) rfl))) (mvT hZ (hw _ (List.mem_of_getElem? (i := 25) rfl))) (mvT hZ (hw _ (List.mem_of_getElem? (i := 26) rfl))) (by decide) (backOf (W := 1) (rmMax l Z a0 hw [] ((3 : Int32) - (1 : Int32)) (0 : Int32)  h0 n0 Z0 ) hZ (hw _ (List.mem_of_getElem? (i := 26) rfl)) (hw _ (List.mem_of_getElem? (i := 25) rfl)) (by decide) (by decide)) (g := (mkF m 97 #[rv sy, iv (3 : Int32), rv co, rv tb, iv k, .val (.long fb), .second, iv i] [(.int (0 : Int32)), (.int ((3 : Int32) - (1 : Int32))), (.ref co)])) rfl (by rw [hml]; rfl) (argsL := [(.int ((3 : Int32) - (1 : Int32))), (.int (0 : Int32))]) (rest := [(.ref co)]) (lenOf pd__28II_29I rfl) rfl (by show 2 * 0 + _ ≤ _; exact Nat.le_of_eq rfl) (hb hby d7_97) (fun _ _ => ⟨rfl, e0, (by decide : 0 + 1 + 0 ≤ _), (by decide : 0 + 4 + 0 ≤ _)⟩)
  dsimp only [Pt.U, Pt.locs, Pt.cells, Pt.slots] at X1 l1 y1 z1 st1 hQ1
  subst l1 y1 z1
  obtain ⟨rfl, N1q, e1⟩ := hQ1
  have N1 := Fr.app N0 N1q
  refine Goes.step ?_ st1
  show Goes p e below _ (sF T1 m 100 #[rv sy, iv (3 : Int32), rv co, rv tb, iv k, .val (.long fb), .second, iv i] [(.int (maxV ((3 : Int32) - (1 : Int32)) (0 : Int32))), (.ref co)])
  refine Goes.step ?_ (fun _ k => XS.i2l X1.here hx rfl (hb hby d7_100) rfl k)
  show Goes p e below _ (sF T1 m 101 #[rv sy, iv (3 : Int32), rv co, rv tb, iv k, .val (.long fb), .second, iv i] [(.long ((maxV ((3 : Int32) - (1 : Int32)) (0 : Int32)).toInt64)), (.ref co)])
  refine Goes.step ?_ (fun _ k => XS.lload X1.here hx rfl (hb hby d7_101) rfl  k)
  show Goes p e below _ (sF T1 m 103 #[rv sy, iv (3 : Int32), rv co, rv tb, iv k, .val (.long fb), .second, iv i] [(.long fb), (.long ((maxV ((3 : Int32) - (1 : Int32)) (0 : Int32)).toInt64)), (.ref co)])
  refine Goes.step ?_ (fun _ k => XS.ladd X1.here hx rfl (hb hby d7_103) rfl k)
  show Goes p e below _ (sF T1 m 104 #[rv sy, iv (3 : Int32), rv co, rv tb, iv k, .val (.long fb), .second, iv i] [(.long (((maxV ((3 : Int32) - (1 : Int32)) (0 : Int32)).toInt64) + fb)), (.ref co)])
  obtain ⟨cq2, kq2, q2a, q2b, q2c⟩ := isOf hZ e1 E_co
  obtain ⟨_, _, ⟨T2, L2, k2, n2⟩, -, X2, ⟨Lc2, hQ2, l2, y2, z2⟩, st2⟩ := X1.virtualBack hx (y := (⟨"com/example/borderline/borderline/Comparisons", "add", "(J)V"⟩ : MethodName)) (z := (⟨"com/example/borderline/borderline/Comparisons", "add", "(J)V"⟩ : MethodName)) hown (mvT hZ (hw _ (List.mem_of_getElem? (i := 43) rfl))) (mvT hZ (hw _ (List.mem_of_getElem? (i := 44) rfl))) (notFace_of_selects (args := #[]) (mvT hZ (hw _ (List.mem_of_getElem? (i := 46) rfl)))) (mvT hZ (hw _ (List.mem_of_getElem? (i := 46) rfl))) (mvT hZ (hw _ (List.mem_of_getElem? (i := 45) rfl))) (by decide) (backOf (W := 0) (rmAdd l Z a0 hw [] co (((maxV ((3 : Int32) - (1 : Int32)) (0 : Int32)).toInt64) + fb) (0 : Int64) h0 n0 Z0 F_count E_co g_co) hZ (hw _ (List.mem_of_getElem? (i := 47) rfl)) (hw _ (List.mem_of_getElem? (i := 4) rfl)) (by decide) (by decide)) q2a q2c (g := (mkF m 104 #[rv sy, iv (3 : Int32), rv co, rv tb, iv k, .val (.long fb), .second, iv i] [(.long (((maxV ((3 : Int32) - (1 : Int32)) (0 : Int32)).toInt64) + fb)), (.ref co)])) rfl (by rw [hml]; rfl) (Steps.refl _) (argsL := [(.long (((maxV ((3 : Int32) - (1 : Int32)) (0 : Int32)).toInt64) + fb))]) (rest := []) (lenOf pd__28J_29V rfl) rfl (by show 2 * 0 + _ ≤ _; exact Nat.le_of_eq rfl) (hb hby d7_104) (fun _ _ => ⟨rfl, e1, (by decide : 0 + 1 + 0 ≤ _), (by decide : 0 + 4 + 0 ≤ _)⟩)
  dsimp only [Pt.U, Pt.locs, Pt.cells, Pt.slots] at X2 l2 y2 z2 st2 hQ2
  subst l2 y2 z2
  obtain ⟨rfl, N2q, K2, G2⟩ := hQ2
  have N2 := Fr.app N1 N2q
  refine Goes.step ?_ (fun _ k => st2.trans k)
  have KK := K_0.trans K2 (allS (Or.inl (List.mem_of_getElem? (i := 0) rfl)) all0)
  have VV := V_tb.keep K2 (ninS (Ne.symm ne_co_tb) nin0)
  show Goes p e below _ (sF T2 m 107 #[rv sy, iv (3 : Int32), rv co, rv tb, iv k, .val (.long fb), .second, iv i] [])
  refine Goes.step ?_ (fun _ k => XS.aloadN X2.here hx rfl (hb hby d7_107) rfl rfl k)
  show Goes p e below _ (sF T2 m 108 #[rv sy, iv (3 : Int32), rv co, rv tb, iv k, .val (.long fb), .second, iv i] [(.ref tb)])
  refine own_out X2 hx hlk hret rfl (Or.inr (Or.inr (Or.inr (Or.inr ⟨rfl, rfl, rfl⟩)))) (hb hby d7_108) ?_ (by decide) (by decide)
  show QBu4 Z co b0 b1 b2 b3 hh n0 _ T2.heap _
  exact ⟨tb, kt, ((0 : Int64) + (((maxV ((3 : Int32) - (1 : Int32)) (0 : Int32)).toInt64) + fb)), rfl, N2, KK, sz_tb, VV, G2, l1, l2⟩
theorem d7_30 : decode prog_7_method_8_code 30 = .ok (.aload_n 0, 1) := by decide +kernel
theorem d7_31 : decode prog_7_method_8_code 31 = .ok (.iload 4, 2) := by decide +kernel
theorem d7_33 : decode prog_7_method_8_code 33 = .ok (.iload 7, 2) := by decide +kernel
theorem d7_35 : decode prog_7_method_8_code 35 = .ok (.invokeinterface 35 3, 5) := by decide +kernel
theorem d7_40 : decode prog_7_method_8_code 40 = .ok (.ifCond .ne 18, 3) := by decide +kernel
theorem d7_43 : decode prog_7_method_8_code 43 = .ok (.aload_n 3, 1) := by decide +kernel
theorem d7_44 : decode prog_7_method_8_code 44 = .ok (.iload 4, 2) := by decide +kernel
theorem d7_46 : decode prog_7_method_8_code 46 = .ok (.iaload, 1) := by decide +kernel
theorem d7_47 : decode prog_7_method_8_code 47 = .ok (.istore 4, 2) := by decide +kernel
theorem d7_49 : decode prog_7_method_8_code 49 = .ok (.lload 5, 2) := by decide +kernel
theorem d7_51 : decode prog_7_method_8_code 51 = .ok (.lconst 1, 1) := by decide +kernel
theorem d7_52 : decode prog_7_method_8_code 52 = .ok (.ladd, 1) := by decide +kernel
theorem d7_53 : decode prog_7_method_8_code 53 = .ok (.lstore 5, 2) := by decide +kernel
theorem d7_55 : decode prog_7_method_8_code 55 = .ok (.goto (-30), 3) := by decide +kernel
set_option maxRecDepth 65536 in
set_option maxHeartbeats 40000000 in
theorem rmBu4 (l : Launch) (Z : State) (a0 : Array Value) (hw : ∀ d ∈ tables_1, d.before a0 Z = true) (ws : List Jvm.Cond) (sy : Addr) (co : Addr) (cK : ClassId) (one : Option Addr) (pa : Addr) (kp : ClassId) (b0 : Int32) (b1 : Int32) (b2 : Int32) (b3 : Int32) (h0 : Heap) (n0 : Nat) (Z0 : n0 ≤ h0.size) (hSame : Z.sameButNew Z [] 0 0) (hLam : Z.lambdaAt? symN 1 30 sgm = some (cK, one)) (hsy : h0[sy]? = some ({ cls := cK, slots := #[.ref pa], vm := .none } : Cell)) (V_pa : Arv Z h0 pa kp .byte (4 : Int32) [(.int b0), (.int b1), (.int b2), (.int b3)] (.int (0 : Int32))) (F_count : Fld Z h0 co "com/example/borderline/borderline/Comparisons" "count" "J" (.long (0 : Int64))) (E_co : Exa Z h0 co "com/example/borderline/borderline/Comparisons") (g_co : n0 ≤ co) :
    MetFree l (⟨"com/example/borderline/borderline/BorderTable", "build", "(Lcom/example/borderline/borderline/BorderTable$Symbols;ILcom/example/borderline/borderline/Comparisons;)[I"⟩ : MethodName) (head1 (Jvm.Cond.code (⟨"com/example/borderline/borderline/BorderTable", "build", "(Lcom/example/borderline/borderline/BorderTable$Symbols;ILcom/example/borderline/borderline/Comparisons;)[I"⟩ : MethodName) prog_7_method_8_code 8 (some (.array .int)) :: ws) ({ frames := 2, cells := 1, slots := 4, locals := 40 } : Room)) (fun a U => a = #[(.ref sy), (.int (3 : Int32)), (.ref co)] ∧ Z.WarmedH U.vm ∧ U.heap = h0) (fun _ _ _ _ _ => True) (fun _ U o U' => ∃ v L, o = .returned v ∧ QBu4 Z co b0 b1 b2 b3 h0 n0 v U'.heap L ∧ FrameEnd U o U' L ({ frames := 2, cells := 1, slots := 4, locals := 40 } : Room).cells ({ frames := 2, cells := 1, slots := 4, locals := 40 } : Room).slots) := by
  refine MetFree.of_bodySF (plainFor_of_name pn_com_example_borderline_borderline_BorderTable) hisR ?_
  intro p e s m args below meth c s₁ Bd hml0 hP hK
  obtain ⟨rfl, hZH, hh⟩ := hP
  have hZ : Z.Warmed39 s.vm := hZH.wide
  have hx := Bd.exec
  have hby := Bd.bytes
  have hlk : meth.locks = false := BodyLoose.notSynchronized Bd
  have hml : c.maxLocals = 8 := hml0
  have hown : s.vm.findClass "com/example/borderline/borderline/BorderTable" = some m.cls := findClass_of_methodNamed Bd.named
  have hnm := (name_of_methodNamed Bd.named Bd.method).1
  have X0 : Stand p l e ({ frames := 2, cells := 1, slots := 4, locals := 40 } : Room) s m #[(.ref sy), (.int (3 : Int32)), (.ref co)] below meth c s₁ [] 0 0 := Stand.of_body Bd
  have e0 : s₁.heap = h0 := by rw [← hh, Bd.state]; rfl
  have N0 := Fr.nil n0
  have hret := Bd.returns
  show Goes p e below (fun o U' => ∃ v L, o = .returned v ∧ QBu4 Z co b0 b1 b2 b3 h0 n0 v U'.heap L ∧ FrameEnd s o U' L ({ frames := 2, cells := 1, slots := 4, locals := 40 } : Room).cells ({ frames := 2, cells := 1, slots := 4, locals := 40 } : Room).slots) (s₁.setTop (entryFrame m #[(.ref sy), (.int (3 : Int32)), (.ref co)] 8))
  refine Goes.step ?_ (fun _ k => castTop (ef_bu4 m sy (3 : Int32) co) k)
  have hmd := own_made (own_lamAt hZH hSame (by decide) hLam)
  show Goes p e below _ (sF s₁ m 0 #[rv sy, iv (3 : Int32), rv co, .unset, .unset, .unset, .unset, .unset] [])
  refine Goes.step ?_ (fun _ k => XS.iloadN X0.here hx rfl (hb hby d7_0) rfl  k)
  show Goes p e below _ (sF s₁ m 1 #[rv sy, iv (3 : Int32), rv co, .unset, .unset, .unset, .unset, .unset] [(.int (3 : Int32))])
  refine Goes.step ?_ (fun _ k => XS.iconst X0.here hx rfl (hb hby d7_1) k)
  show Goes p e below _ (sF s₁ m 2 #[rv sy, iv (3 : Int32), rv co, .unset, .unset, .unset, .unset, .unset] [(.int (1 : Int32)), (.int (3 : Int32))])
  refine Goes.step ?_ (fun _ k => XS.iadd X0.here hx rfl (hb hby d7_2) rfl k)
  show Goes p e below _ (sF s₁ m 3 #[rv sy, iv (3 : Int32), rv co, .unset, .unset, .unset, .unset, .unset] [(.int ((3 : Int32) + (1 : Int32)))])
  rw [show ((3 : Int32) + (1 : Int32)) = (4 : Int32) from by decide]
  show Goes p e below _ (sF s₁ m 3 #[rv sy, iv (3 : Int32), rv co, .unset, .unset, .unset, .unset, .unset] [(.int (4 : Int32))])
  obtain ⟨T1, h1, k1, X1, e1, E1, A1, st1⟩ := newP X0 hx hZ (hw _ (List.mem_of_getElem? (i := 15) rfl)) e0 (g := (mkF m 3 #[rv sy, iv (3 : Int32), rv co, .unset, .unset, .unset, .unset, .unset] [(.int (4 : Int32))])) rfl (hb hby d7_3) rfl (by decide) (cap := 4) (by decide) (by decide) (by decide) (by decide)
  obtain ⟨ob1, g1⟩ : ∃ z, z = h0.size := ⟨_, rfl⟩
  rw [← g1] at A1 st1
  have g_ob1 : n0 ≤ ob1 := Nat.le_trans Z0 (Nat.le_of_eq g1.symm)
  have sz_ob1 : h0.size ≤ ob1 := Nat.le_trans (Keep.refl h0 [co]).1 (Nat.le_of_eq g1.symm)
  have ne_pa_ob1 : pa ≠ ob1 := Nat.ne_of_lt (Nat.lt_of_lt_of_le V_pa.lt (Nat.le_of_eq g1.symm))
  have ne_co_ob1 : co ≠ ob1 := Nat.ne_of_lt (Nat.lt_of_lt_of_le F_count.lt (Nat.le_of_eq g1.symm))
  have Zs1 : n0 ≤ h1.size := Nat.le_trans Z0 E1.1
  refine Goes.step ?_ st1
  have V_ob1 : Arv Z h1 ob1 k1 .int (4 : Int32) [(.int (0 : Int32)), (.int (0 : Int32)), (.int (0 : Int32)), (.int (0 : Int32))] (.int (0 : Int32)) := (Arv.new A1 (by decide)).pad (pad_rep [] (.int (0 : Int32)) 4)
  have ne_sy_ob1 : sy ≠ ob1 := Nat.ne_of_lt (Nat.lt_of_lt_of_le (Array.getElem?_eq_some_iff.mp hsy).1 (Nat.le_of_eq g1.symm))
  show Goes p e below _ (sF T1 m 5 #[rv sy, iv (3 : Int32), rv co, .unset, .unset, .unset, .unset, .unset] [(.ref ob1)])
  refine Goes.step ?_ (fun _ k => XS.astoreN X1.here hx rfl (hb hby d7_5) rfl rfl (l' := #[rv sy, iv (3 : Int32), rv co, rv ob1, .unset, .unset, .unset, .unset]) rfl k)
  show Goes p e below _ (sF T1 m 6 #[rv sy, iv (3 : Int32), rv co, rv ob1, .unset, .unset, .unset, .unset] [])
  refine Goes.step ?_ (fun _ k => XS.aloadN X1.here hx rfl (hb hby d7_6) rfl rfl k)
  show Goes p e below _ (sF T1 m 7 #[rv sy, iv (3 : Int32), rv co, rv ob1, .unset, .unset, .unset, .unset] [(.ref ob1)])
  refine Goes.step ?_ (fun _ k => XS.iconst X1.here hx rfl (hb hby d7_7) k)
  show Goes p e below _ (sF T1 m 8 #[rv sy, iv (3 : Int32), rv co, rv ob1, .unset, .unset, .unset, .unset] [(.int (0 : Int32)), (.ref ob1)])
  refine Goes.step ?_ (fun _ k => XS.iconst X1.here hx rfl (hb hby d7_8) k)
  show Goes p e below _ (sF T1 m 9 #[rv sy, iv (3 : Int32), rv co, rv ob1, .unset, .unset, .unset, .unset] [(.int (-1 : Int32)), (.int (0 : Int32)), (.ref ob1)])
  obtain ⟨cl2, Ar2, q2, S2, N_2, H2, G2⟩ := id V_ob1
  have hin3 : ¬ ((0 : Int32) < 0 ∨ cl2.slots.size ≤ ((0 : Int32)).toNatClampNeg) := inb_of S2 ⟨by decide, by decide⟩
  obtain ⟨T3, h3, X3, e3, W3, st3⟩ := stI X1 hx hZ e1 Ar2 (j := (0 : Int32)) hin3 (g := (mkF m 9 #[rv sy, iv (3 : Int32), rv co, rv ob1, .unset, .unset, .unset, .unset] [(.int (-1 : Int32)), (.int (0 : Int32)), (.ref ob1)])) rfl rfl (hb hby d7_9)
  have V_3 : Arv Z h3 ob1 k1 .int (4 : Int32) [(.int (-1 : Int32)), (.int (0 : Int32)), (.int (0 : Int32)), (.int (0 : Int32))] (.int (0 : Int32)) := Arv.set Ar2 q2 S2 N_2 H2 G2 rfl W3 0 rfl (Nat.le_of_ble_eq_true rfl)
  have Zs3 : n0 ≤ h3.size := Nat.le_trans Zs1 (Keep.of_wr W3).1
  have N3 := Fr.snoc X3 N0 g_ob1
  refine Goes.step ?_ st3
  show Goes p e below _ (sF T3 m 10 #[rv sy, iv (3 : Int32), rv co, rv ob1, .unset, .unset, .unset, .unset] [])
  refine Goes.step ?_ (fun _ k => XS.iconst X3.here hx rfl (hb hby d7_10) k)
  show Goes p e below _ (sF T3 m 11 #[rv sy, iv (3 : Int32), rv co, rv ob1, .unset, .unset, .unset, .unset] [(.int (0 : Int32))])
  refine Goes.step ?_ (fun _ k => XS.istore X3.here hx rfl (hb hby d7_11) rfl (l' := #[rv sy, iv (3 : Int32), rv co, rv ob1, iv (0 : Int32), .unset, .unset, .unset]) rfl k)
  show Goes p e below _ (sF T3 m 13 #[rv sy, iv (3 : Int32), rv co, rv ob1, iv (0 : Int32), .unset, .unset, .unset] [])
  refine Goes.step ?_ (fun _ k => XS.lconst X3.here hx rfl (hb hby d7_13) k)
  show Goes p e below _ (sF T3 m 14 #[rv sy, iv (3 : Int32), rv co, rv ob1, iv (0 : Int32), .unset, .unset, .unset] [(.long (0 : Int64))])
  refine Goes.step ?_ (fun _ k => XS.lstore X3.here hx rfl (hb hby d7_14) rfl (l' := #[rv sy, iv (3 : Int32), rv co, rv ob1, iv (0 : Int32), .val (.long (0 : Int64)), .second, .unset]) rfl k)
  show Goes p e below _ (sF T3 m 16 #[rv sy, iv (3 : Int32), rv co, rv ob1, iv (0 : Int32), .val (.long (0 : Int64)), .second, .unset] [])
  refine Goes.step ?_ (fun _ k => XS.iconst X3.here hx rfl (hb hby d7_16) k)
  show Goes p e below _ (sF T3 m 17 #[rv sy, iv (3 : Int32), rv co, rv ob1, iv (0 : Int32), .val (.long (0 : Int64)), .second, .unset] [(.int (1 : Int32))])
  refine Goes.step ?_ (fun _ k => XS.istore X3.here hx rfl (hb hby d7_17) rfl (l' := #[rv sy, iv (3 : Int32), rv co, rv ob1, iv (0 : Int32), .val (.long (0 : Int64)), .second, iv (1 : Int32)]) rfl k)
  show Goes p e below _ (sF T3 m 19 #[rv sy, iv (3 : Int32), rv co, rv ob1, iv (0 : Int32), .val (.long (0 : Int64)), .second, iv (1 : Int32)] [])
  refine Goes.step ?_ (fun _ k => XS.iload X3.here hx rfl (hb hby d7_19) rfl  k)
  show Goes p e below _ (sF T3 m 21 #[rv sy, iv (3 : Int32), rv co, rv ob1, iv (0 : Int32), .val (.long (0 : Int64)), .second, iv (1 : Int32)] [(.int (1 : Int32))])
  refine Goes.step ?_ (fun _ k => XS.iloadN X3.here hx rfl (hb hby d7_21) rfl  k)
  show Goes p e below _ (sF T3 m 22 #[rv sy, iv (3 : Int32), rv co, rv ob1, iv (0 : Int32), .val (.long (0 : Int64)), .second, iv (1 : Int32)] [(.int (3 : Int32)), (.int (1 : Int32))])
  refine Goes.step ?_ (fun _ k => XS.icmpNo X3.here hx rfl (hb hby d7_22) rfl (tlt (by decide : (1 : Int32) < (3 : Int32))).2.1 k)
  show Goes p e below _ (sF T3 m 25 #[rv sy, iv (3 : Int32), rv co, rv ob1, iv (0 : Int32), .val (.long (0 : Int64)), .second, iv (1 : Int32)] [])
  refine Goes.step ?_ (fun _ k => XS.iload X3.here hx rfl (hb hby d7_25) rfl  k)
  show Goes p e below _ (sF T3 m 27 #[rv sy, iv (3 : Int32), rv co, rv ob1, iv (0 : Int32), .val (.long (0 : Int64)), .second, iv (1 : Int32)] [(.int (0 : Int32))])
  refine Goes.step ?_ (fun _ k => XS.ifYes X3.here hx rfl (pc0 := 27) (pc' := 58) rfl (hb hby d7_27) rfl ((if0 _ _).trans (flt (by decide : ¬ ((0 : Int32) < (0 : Int32)))).2.2.2) (by decide) (by decide) k)
  show Goes p e below _ (sF T3 m 58 #[rv sy, iv (3 : Int32), rv co, rv ob1, iv (0 : Int32), .val (.long (0 : Int64)), .second, iv (1 : Int32)] [])
  refine Goes.step ?_ (fun _ k => XS.iload X3.here hx rfl (hb hby d7_58) rfl  k)
  show Goes p e below _ (sF T3 m 60 #[rv sy, iv (3 : Int32), rv co, rv ob1, iv (0 : Int32), .val (.long (0 : Int64)), .second, iv (1 : Int32)] [(.int (0 : Int32))])
  refine Goes.step ?_ (fun _ k => XS.ifNo X3.here hx rfl (hb hby d7_60) rfl ((if0 _ _).trans (flt (by decide : ¬ ((0 : Int32) < (0 : Int32)))).2.2.1) k)
  show Goes p e below _ (sF T3 m 63 #[rv sy, iv (3 : Int32), rv co, rv ob1, iv (0 : Int32), .val (.long (0 : Int64)), .second, iv (1 : Int32)] [])
  refine Goes.step ?_ (fun _ k => XS.aloadN X3.here hx rfl (hb hby d7_63) rfl rfl k)
  show Goes p e below _ (sF T3 m 64 #[rv sy, iv (3 : Int32), rv co, rv ob1, iv (0 : Int32), .val (.long (0 : Int64)), .second, iv (1 : Int32)] [(.ref sy)])
  refine Goes.step ?_ (fun _ k => XS.iconst X3.here hx rfl (hb hby d7_64) k)
  show Goes p e below _ (sF T3 m 65 #[rv sy, iv (3 : Int32), rv co, rv ob1, iv (0 : Int32), .val (.long (0 : Int64)), .second, iv (1 : Int32)] [(.int (0 : Int32)), (.ref sy)])
  refine Goes.step ?_ (fun _ k => XS.iload X3.here hx rfl (hb hby d7_65) rfl  k)
  show Goes p e below _ (sF T3 m 67 #[rv sy, iv (3 : Int32), rv co, rv ob1, iv (0 : Int32), .val (.long (0 : Int64)), .second, iv (1 : Int32)] [(.int (1 : Int32)), (.int (0 : Int32)), (.ref sy)])
  by_cases hq01_4 : b0 = b1
  · have hsy5 : h3[sy]? = some ({ cls := cK, slots := #[.ref pa], vm := .none } : Cell) := ((Keep.of_wr W3).2.1 _ _ (E1.2 _ _ hsy) (ninS ne_sy_ob1 nin0))
    have V_pa_6 := ((V_pa.ext E1).other W3 ne_pa_ob1)
    obtain ⟨T5, L5, X5, e5, N5, st5⟩ := own_same X3 hx hZ hw hown hmd e3 N3 Zs3 hsy5 V_pa_6 (i := (0 : Int32)) (j := (1 : Int32)) (r := (1 : Int32)) ⟨by decide, by decide⟩ ⟨by decide, by decide⟩ rfl rfl (by simp [hq01_4]) rfl (g := (mkF m 67 #[rv sy, iv (3 : Int32), rv co, rv ob1, iv (0 : Int32), .val (.long (0 : Int64)), .second, iv (1 : Int32)] [(.int (1 : Int32)), (.int (0 : Int32)), (.ref sy)])) rfl (by rw [hml]; rfl) rfl rfl (hb hby d7_67) (by decide) (by decide) (by decide) (by decide)
    refine Goes.step ?_ st5
    show Goes p e below _ (sF T5 m 72 #[rv sy, iv (3 : Int32), rv co, rv ob1, iv (0 : Int32), .val (.long (0 : Int64)), .second, iv (1 : Int32)] [(.int (1 : Int32))])
    refine Goes.step ?_ (fun _ k => XS.ifNo X5.here hx rfl (hb hby d7_72) rfl ((if0 _ _).trans (feq (by decide : ¬ ((1 : Int32) = (0 : Int32)))).1) k)
    show Goes p e below _ (sF T5 m 75 #[rv sy, iv (3 : Int32), rv co, rv ob1, iv (0 : Int32), .val (.long (0 : Int64)), .second, iv (1 : Int32)] [])
    refine Goes.step ?_ (fun _ k => XS.iinc X5.here hx rfl (hb hby d7_75) rfl (l' := #[rv sy, iv (3 : Int32), rv co, rv ob1, iv ((0 : Int32) + (1 : Int32)), .val (.long (0 : Int64)), .second, iv (1 : Int32)]) rfl k)
    show Goes p e below _ (sF T5 m 78 #[rv sy, iv (3 : Int32), rv co, rv ob1, iv ((0 : Int32) + (1 : Int32)), .val (.long (0 : Int64)), .second, iv (1 : Int32)] [])
    rw [show ((0 : Int32) + (1 : Int32)) = (1 : Int32) from by decide]
    show Goes p e below _ (sF T5 m 78 #[rv sy, iv (3 : Int32), rv co, rv ob1, iv (1 : Int32), .val (.long (0 : Int64)), .second, iv (1 : Int32)] [])
    refine Goes.step ?_ (fun _ k => XS.aloadN X5.here hx rfl (hb hby d7_78) rfl rfl k)
    show Goes p e below _ (sF T5 m 79 #[rv sy, iv (3 : Int32), rv co, rv ob1, iv (1 : Int32), .val (.long (0 : Int64)), .second, iv (1 : Int32)] [(.ref ob1)])
    refine Goes.step ?_ (fun _ k => XS.iload X5.here hx rfl (hb hby d7_79) rfl  k)
    show Goes p e below _ (sF T5 m 81 #[rv sy, iv (3 : Int32), rv co, rv ob1, iv (1 : Int32), .val (.long (0 : Int64)), .second, iv (1 : Int32)] [(.int (1 : Int32)), (.ref ob1)])
    refine Goes.step ?_ (fun _ k => XS.iconst X5.here hx rfl (hb hby d7_81) k)
    show Goes p e below _ (sF T5 m 82 #[rv sy, iv (3 : Int32), rv co, rv ob1, iv (1 : Int32), .val (.long (0 : Int64)), .second, iv (1 : Int32)] [(.int (1 : Int32)), (.int (1 : Int32)), (.ref ob1)])
    refine Goes.step ?_ (fun _ k => XS.iadd X5.here hx rfl (hb hby d7_82) rfl k)
    show Goes p e below _ (sF T5 m 83 #[rv sy, iv (3 : Int32), rv co, rv ob1, iv (1 : Int32), .val (.long (0 : Int64)), .second, iv (1 : Int32)] [(.int ((1 : Int32) + (1 : Int32))), (.ref ob1)])
    rw [show ((1 : Int32) + (1 : Int32)) = (2 : Int32) from by decide]
    show Goes p e below _ (sF T5 m 83 #[rv sy, iv (3 : Int32), rv co, rv ob1, iv (1 : Int32), .val (.long (0 : Int64)), .second, iv (1 : Int32)] [(.int (2 : Int32)), (.ref ob1)])
    refine Goes.step ?_ (fun _ k => XS.iload X5.here hx rfl (hb hby d7_83) rfl  k)
    show Goes p e below _ (sF T5 m 85 #[rv sy, iv (3 : Int32), rv co, rv ob1, iv (1 : Int32), .val (.long (0 : Int64)), .second, iv (1 : Int32)] [(.int (1 : Int32)), (.int (2 : Int32)), (.ref ob1)])
    obtain ⟨cl7, Ar7, q7, S7, N_7, H7, G7⟩ := id V_3
    have hin8 : ¬ ((2 : Int32) < 0 ∨ cl7.slots.size ≤ ((2 : Int32)).toNatClampNeg) := inb_of S7 ⟨by decide, by decide⟩
    obtain ⟨T8, h8, X8, e8, W8, st8⟩ := stI X5 hx hZ e5 Ar7 (j := (2 : Int32)) hin8 (g := (mkF m 85 #[rv sy, iv (3 : Int32), rv co, rv ob1, iv (1 : Int32), .val (.long (0 : Int64)), .second, iv (1 : Int32)] [(.int (1 : Int32)), (.int (2 : Int32)), (.ref ob1)])) rfl rfl (hb hby d7_85)
    have V_8 : Arv Z h8 ob1 k1 .int (4 : Int32) [(.int (-1 : Int32)), (.int (0 : Int32)), (.int (1 : Int32)), (.int (0 : Int32))] (.int (0 : Int32)) := Arv.set Ar7 q7 S7 N_7 H7 G7 rfl W8 2 rfl (Nat.le_of_ble_eq_true rfl)
    have Zs8 : n0 ≤ h8.size := Nat.le_trans Zs3 (Keep.of_wr W8).1
    have N8 := Fr.snoc X8 N5 g_ob1
    refine Goes.step ?_ st8
    show Goes p e below _ (sF T8 m 86 #[rv sy, iv (3 : Int32), rv co, rv ob1, iv (1 : Int32), .val (.long (0 : Int64)), .second, iv (1 : Int32)] [])
    refine Goes.step ?_ (fun _ k => XS.iinc X8.here hx rfl (hb hby d7_86) rfl (l' := #[rv sy, iv (3 : Int32), rv co, rv ob1, iv (1 : Int32), .val (.long (0 : Int64)), .second, iv ((1 : Int32) + (1 : Int32))]) rfl k)
    show Goes p e below _ (sF T8 m 89 #[rv sy, iv (3 : Int32), rv co, rv ob1, iv (1 : Int32), .val (.long (0 : Int64)), .second, iv ((1 : Int32) + (1 : Int32))] [])
    rw [show ((1 : Int32) + (1 : Int32)) = (2 : Int32) from by decide]
    show Goes p e below _ (sF T8 m 89 #[rv sy, iv (3 : Int32), rv co, rv ob1, iv (1 : Int32), .val (.long (0 : Int64)), .second, iv (2 : Int32)] [])
    refine Goes.step ?_ (fun _ k => XS.goto X8.here hx rfl (pc0 := 89) (pc' := 19) rfl (hb hby d7_89) (by decide) (by decide) k)
    show Goes p e below _ (sF T8 m 19 #[rv sy, iv (3 : Int32), rv co, rv ob1, iv (1 : Int32), .val (.long (0 : Int64)), .second, iv (2 : Int32)] [])
    refine Goes.step ?_ (fun _ k => XS.iload X8.here hx rfl (hb hby d7_19) rfl  k)
    show Goes p e below _ (sF T8 m 21 #[rv sy, iv (3 : Int32), rv co, rv ob1, iv (1 : Int32), .val (.long (0 : Int64)), .second, iv (2 : Int32)] [(.int (2 : Int32))])
    refine Goes.step ?_ (fun _ k => XS.iloadN X8.here hx rfl (hb hby d7_21) rfl  k)
    show Goes p e below _ (sF T8 m 22 #[rv sy, iv (3 : Int32), rv co, rv ob1, iv (1 : Int32), .val (.long (0 : Int64)), .second, iv (2 : Int32)] [(.int (3 : Int32)), (.int (2 : Int32))])
    refine Goes.step ?_ (fun _ k => XS.icmpNo X8.here hx rfl (hb hby d7_22) rfl (tlt (by decide : (2 : Int32) < (3 : Int32))).2.1 k)
    show Goes p e below _ (sF T8 m 25 #[rv sy, iv (3 : Int32), rv co, rv ob1, iv (1 : Int32), .val (.long (0 : Int64)), .second, iv (2 : Int32)] [])
    refine Goes.step ?_ (fun _ k => XS.iload X8.here hx rfl (hb hby d7_25) rfl  k)
    show Goes p e below _ (sF T8 m 27 #[rv sy, iv (3 : Int32), rv co, rv ob1, iv (1 : Int32), .val (.long (0 : Int64)), .second, iv (2 : Int32)] [(.int (1 : Int32))])
    refine Goes.step ?_ (fun _ k => XS.ifNo X8.here hx rfl (hb hby d7_27) rfl ((if0 _ _).trans (tlt (by decide : (0 : Int32) < (1 : Int32))).2.2.2) k)
    show Goes p e below _ (sF T8 m 30 #[rv sy, iv (3 : Int32), rv co, rv ob1, iv (1 : Int32), .val (.long (0 : Int64)), .second, iv (2 : Int32)] [])
    refine Goes.step ?_ (fun _ k => XS.aloadN X8.here hx rfl (hb hby d7_30) rfl rfl k)
    show Goes p e below _ (sF T8 m 31 #[rv sy, iv (3 : Int32), rv co, rv ob1, iv (1 : Int32), .val (.long (0 : Int64)), .second, iv (2 : Int32)] [(.ref sy)])
    refine Goes.step ?_ (fun _ k => XS.iload X8.here hx rfl (hb hby d7_31) rfl  k)
    show Goes p e below _ (sF T8 m 33 #[rv sy, iv (3 : Int32), rv co, rv ob1, iv (1 : Int32), .val (.long (0 : Int64)), .second, iv (2 : Int32)] [(.int (1 : Int32)), (.ref sy)])
    refine Goes.step ?_ (fun _ k => XS.iload X8.here hx rfl (hb hby d7_33) rfl  k)
    show Goes p e below _ (sF T8 m 35 #[rv sy, iv (3 : Int32), rv co, rv ob1, iv (1 : Int32), .val (.long (0 : Int64)), .second, iv (2 : Int32)] [(.int (2 : Int32)), (.int (1 : Int32)), (.ref sy)])
    by_cases hq12_9 : b1 = b2
    · have hsy10 : h8[sy]? = some ({ cls := cK, slots := #[.ref pa], vm := .none } : Cell) := ((Keep.of_wr W8).2.1 _ _ hsy5 (ninS ne_sy_ob1 nin0))
      have V_pa_11 := (V_pa_6.other W8 ne_pa_ob1)
      obtain ⟨T10, L10, X10, e10, N10, st10⟩ := own_same X8 hx hZ hw hown hmd e8 N8 Zs8 hsy10 V_pa_11 (i := (1 : Int32)) (j := (2 : Int32)) (r := (1 : Int32)) ⟨by decide, by decide⟩ ⟨by decide, by decide⟩ rfl rfl (by simp [hq12_9]) rfl (g := (mkF m 35 #[rv sy, iv (3 : Int32), rv co, rv ob1, iv (1 : Int32), .val (.long (0 : Int64)), .second, iv (2 : Int32)] [(.int (2 : Int32)), (.int (1 : Int32)), (.ref sy)])) rfl (by rw [hml]; rfl) rfl rfl (hb hby d7_35) (by decide) (by decide) (by decide) (by decide)
      refine Goes.step ?_ st10
      show Goes p e below _ (sF T10 m 40 #[rv sy, iv (3 : Int32), rv co, rv ob1, iv (1 : Int32), .val (.long (0 : Int64)), .second, iv (2 : Int32)] [(.int (1 : Int32))])
      refine Goes.step ?_ (fun _ k => XS.ifYes X10.here hx rfl (pc0 := 40) (pc' := 58) rfl (hb hby d7_40) rfl ((if0 _ _).trans (feq (by decide : ¬ ((1 : Int32) = (0 : Int32)))).2) (by decide) (by decide) k)
      show Goes p e below _ (sF T10 m 58 #[rv sy, iv (3 : Int32), rv co, rv ob1, iv (1 : Int32), .val (.long (0 : Int64)), .second, iv (2 : Int32)] [])
      refine Goes.step ?_ (fun _ k => XS.iload X10.here hx rfl (hb hby d7_58) rfl  k)
      show Goes p e below _ (sF T10 m 60 #[rv sy, iv (3 : Int32), rv co, rv ob1, iv (1 : Int32), .val (.long (0 : Int64)), .second, iv (2 : Int32)] [(.int (1 : Int32))])
      refine Goes.step ?_ (fun _ k => XS.ifYes X10.here hx rfl (pc0 := 60) (pc' := 75) rfl (hb hby d7_60) rfl ((if0 _ _).trans (tlt (by decide : (0 : Int32) < (1 : Int32))).2.2.1) (by decide) (by decide) k)
      show Goes p e below _ (sF T10 m 75 #[rv sy, iv (3 : Int32), rv co, rv ob1, iv (1 : Int32), .val (.long (0 : Int64)), .second, iv (2 : Int32)] [])
      refine Goes.step ?_ (fun _ k => XS.iinc X10.here hx rfl (hb hby d7_75) rfl (l' := #[rv sy, iv (3 : Int32), rv co, rv ob1, iv ((1 : Int32) + (1 : Int32)), .val (.long (0 : Int64)), .second, iv (2 : Int32)]) rfl k)
      show Goes p e below _ (sF T10 m 78 #[rv sy, iv (3 : Int32), rv co, rv ob1, iv ((1 : Int32) + (1 : Int32)), .val (.long (0 : Int64)), .second, iv (2 : Int32)] [])
      rw [show ((1 : Int32) + (1 : Int32)) = (2 : Int32) from by decide]
      show Goes p e below _ (sF T10 m 78 #[rv sy, iv (3 : Int32), rv co, rv ob1, iv (2 : Int32), .val (.long (0 : Int64)), .second, iv (2 : Int32)] [])
      refine Goes.step ?_ (fun _ k => XS.aloadN X10.here hx rfl (hb hby d7_78) rfl rfl k)
      show Goes p e below _ (sF T10 m 79 #[rv sy, iv (3 : Int32), rv co, rv ob1, iv (2 : Int32), .val (.long (0 : Int64)), .second, iv (2 : Int32)] [(.ref ob1)])
      refine Goes.step ?_ (fun _ k => XS.iload X10.here hx rfl (hb hby d7_79) rfl  k)
      show Goes p e below _ (sF T10 m 81 #[rv sy, iv (3 : Int32), rv co, rv ob1, iv (2 : Int32), .val (.long (0 : Int64)), .second, iv (2 : Int32)] [(.int (2 : Int32)), (.ref ob1)])
      refine Goes.step ?_ (fun _ k => XS.iconst X10.here hx rfl (hb hby d7_81) k)
      show Goes p e below _ (sF T10 m 82 #[rv sy, iv (3 : Int32), rv co, rv ob1, iv (2 : Int32), .val (.long (0 : Int64)), .second, iv (2 : Int32)] [(.int (1 : Int32)), (.int (2 : Int32)), (.ref ob1)])
      refine Goes.step ?_ (fun _ k => XS.iadd X10.here hx rfl (hb hby d7_82) rfl k)
      show Goes p e below _ (sF T10 m 83 #[rv sy, iv (3 : Int32), rv co, rv ob1, iv (2 : Int32), .val (.long (0 : Int64)), .second, iv (2 : Int32)] [(.int ((2 : Int32) + (1 : Int32))), (.ref ob1)])
      rw [show ((2 : Int32) + (1 : Int32)) = (3 : Int32) from by decide]
      show Goes p e below _ (sF T10 m 83 #[rv sy, iv (3 : Int32), rv co, rv ob1, iv (2 : Int32), .val (.long (0 : Int64)), .second, iv (2 : Int32)] [(.int (3 : Int32)), (.ref ob1)])
      refine Goes.step ?_ (fun _ k => XS.iload X10.here hx rfl (hb hby d7_83) rfl  k)
      show Goes p e below _ (sF T10 m 85 #[rv sy, iv (3 : Int32), rv co, rv ob1, iv (2 : Int32), .val (.long (0 : Int64)), .second, iv (2 : Int32)] [(.int (2 : Int32)), (.int (3 : Int32)), (.ref ob1)])
      obtain ⟨cl12, Ar12, q12, S12, N_12, H12, G12⟩ := id V_8
      have hin13 : ¬ ((3 : Int32) < 0 ∨ cl12.slots.size ≤ ((3 : Int32)).toNatClampNeg) := inb_of S12 ⟨by decide, by decide⟩
      obtain ⟨T13, h13, X13, e13, W13, st13⟩ := stI X10 hx hZ e10 Ar12 (j := (3 : Int32)) hin13 (g := (mkF m 85 #[rv sy, iv (3 : Int32), rv co, rv ob1, iv (2 : Int32), .val (.long (0 : Int64)), .second, iv (2 : Int32)] [(.int (2 : Int32)), (.int (3 : Int32)), (.ref ob1)])) rfl rfl (hb hby d7_85)
      have V_13 : Arv Z h13 ob1 k1 .int (4 : Int32) [(.int (-1 : Int32)), (.int (0 : Int32)), (.int (1 : Int32)), (.int (2 : Int32))] (.int (0 : Int32)) := Arv.set Ar12 q12 S12 N_12 H12 G12 rfl W13 3 rfl (Nat.le_of_ble_eq_true rfl)
      have Zs13 : n0 ≤ h13.size := Nat.le_trans Zs8 (Keep.of_wr W13).1
      have N13 := Fr.snoc X13 N10 g_ob1
      refine Goes.step ?_ st13
      show Goes p e below _ (sF T13 m 86 #[rv sy, iv (3 : Int32), rv co, rv ob1, iv (2 : Int32), .val (.long (0 : Int64)), .second, iv (2 : Int32)] [])
      refine Goes.step ?_ (fun _ k => XS.iinc X13.here hx rfl (hb hby d7_86) rfl (l' := #[rv sy, iv (3 : Int32), rv co, rv ob1, iv (2 : Int32), .val (.long (0 : Int64)), .second, iv ((2 : Int32) + (1 : Int32))]) rfl k)
      show Goes p e below _ (sF T13 m 89 #[rv sy, iv (3 : Int32), rv co, rv ob1, iv (2 : Int32), .val (.long (0 : Int64)), .second, iv ((2 : Int32) + (1 : Int32))] [])
      rw [show ((2 : Int32) + (1 : Int32)) = (3 : Int32) from by decide]
      show Goes p e below _ (sF T13 m 89 #[rv sy, iv (3 : Int32), rv co, rv ob1, iv (2 : Int32), .val (.long (0 : Int64)), .second, iv (3 : Int32)] [])
      refine Goes.step ?_ (fun _ k => XS.goto X13.here hx rfl (pc0 := 89) (pc' := 19) rfl (hb hby d7_89) (by decide) (by decide) k)
      show Goes p e below _ (sF T13 m 19 #[rv sy, iv (3 : Int32), rv co, rv ob1, iv (2 : Int32), .val (.long (0 : Int64)), .second, iv (3 : Int32)] [])
      refine Goes.step ?_ (fun _ k => XS.iload X13.here hx rfl (hb hby d7_19) rfl  k)
      show Goes p e below _ (sF T13 m 21 #[rv sy, iv (3 : Int32), rv co, rv ob1, iv (2 : Int32), .val (.long (0 : Int64)), .second, iv (3 : Int32)] [(.int (3 : Int32))])
      refine Goes.step ?_ (fun _ k => XS.iloadN X13.here hx rfl (hb hby d7_21) rfl  k)
      show Goes p e below _ (sF T13 m 22 #[rv sy, iv (3 : Int32), rv co, rv ob1, iv (2 : Int32), .val (.long (0 : Int64)), .second, iv (3 : Int32)] [(.int (3 : Int32)), (.int (3 : Int32))])
      refine Goes.step ?_ (fun _ k => XS.icmpYes X13.here hx rfl (pc0 := 22) (pc' := 92) rfl (hb hby d7_22) rfl (flt (by decide : ¬ ((3 : Int32) < (3 : Int32)))).2.1 (by decide) (by decide) k)
      show Goes p e below _ (sF T13 m 92 #[rv sy, iv (3 : Int32), rv co, rv ob1, iv (2 : Int32), .val (.long (0 : Int64)), .second, iv (3 : Int32)] [])
      have t2 : (lg2 b0 b1) = (1 : Int32) := by simp only [lg2]; (first | (simp [hq01_4, hq12_9]; done) | (simp_all; done) | grind)
      have t3 : (lg3 b0 b1 b2) = (2 : Int32) := by simp only [lg3]; (first | (simp [hq01_4, hq12_9]; done) | (simp_all; done) | grind)
      rw [show ([(.int (-1 : Int32)), (.int (0 : Int32)), (.int (1 : Int32)), (.int (2 : Int32))] : List Value) = [(.int (-1 : Int32)), (.int (0 : Int32)), (.int (lg2 b0 b1)), (.int (lg3 b0 b1 b2))] from by rw [t2, t3]] at V_13
      have K_14 := (((((Keep.refl h0 [co]).ext E1).wr W3 (Or.inr sz_ob1)).wr W8 (Or.inr sz_ob1)).wr W13 (Or.inr sz_ob1))
      have F_co_count_15 := ((((F_count.ext E1).other W3 (Or.inl ne_co_ob1)).other W8 (Or.inl ne_co_ob1)).other W13 (Or.inl ne_co_ob1))
      have E_co_16 := ((((E_co.ext E1).wr W3).wr W8).wr W13)
      exact bu92_4 h0 sy co ob1 k1 b0 b1 b2 b3 (2 : Int32) (0 : Int64) (3 : Int32) X13 hx hZ hw hby hlk hret hml hown e13 N13 Zs13 K_14 V_13 F_co_count_15 E_co_16 ne_co_ob1 g_co sz_ob1 (by decide) (by decide)
    · have hsy17 : h8[sy]? = some ({ cls := cK, slots := #[.ref pa], vm := .none } : Cell) := ((Keep.of_wr W8).2.1 _ _ hsy5 (ninS ne_sy_ob1 nin0))
      have V_pa_18 := (V_pa_6.other W8 ne_pa_ob1)
      obtain ⟨T17, L17, X17, e17, N17, st17⟩ := own_same X8 hx hZ hw hown hmd e8 N8 Zs8 hsy17 V_pa_18 (i := (1 : Int32)) (j := (2 : Int32)) (r := (0 : Int32)) ⟨by decide, by decide⟩ ⟨by decide, by decide⟩ rfl rfl (by simp [hq12_9]) rfl (g := (mkF m 35 #[rv sy, iv (3 : Int32), rv co, rv ob1, iv (1 : Int32), .val (.long (0 : Int64)), .second, iv (2 : Int32)] [(.int (2 : Int32)), (.int (1 : Int32)), (.ref sy)])) rfl (by rw [hml]; rfl) rfl rfl (hb hby d7_35) (by decide) (by decide) (by decide) (by decide)
      refine Goes.step ?_ st17
      show Goes p e below _ (sF T17 m 40 #[rv sy, iv (3 : Int32), rv co, rv ob1, iv (1 : Int32), .val (.long (0 : Int64)), .second, iv (2 : Int32)] [(.int (0 : Int32))])
      refine Goes.step ?_ (fun _ k => XS.ifNo X17.here hx rfl (hb hby d7_40) rfl ((if0 _ _).trans (teq (by decide : (0 : Int32) = (0 : Int32))).2) k)
      show Goes p e below _ (sF T17 m 43 #[rv sy, iv (3 : Int32), rv co, rv ob1, iv (1 : Int32), .val (.long (0 : Int64)), .second, iv (2 : Int32)] [])
      refine Goes.step ?_ (fun _ k => XS.aloadN X17.here hx rfl (hb hby d7_43) rfl rfl k)
      show Goes p e below _ (sF T17 m 44 #[rv sy, iv (3 : Int32), rv co, rv ob1, iv (1 : Int32), .val (.long (0 : Int64)), .second, iv (2 : Int32)] [(.ref ob1)])
      refine Goes.step ?_ (fun _ k => XS.iload X17.here hx rfl (hb hby d7_44) rfl  k)
      show Goes p e below _ (sF T17 m 46 #[rv sy, iv (3 : Int32), rv co, rv ob1, iv (1 : Int32), .val (.long (0 : Int64)), .second, iv (2 : Int32)] [(.int (1 : Int32)), (.ref ob1)])
      obtain ⟨cl19, Ar19, q19, S19, N_19, H19, G19⟩ := id V_8
      have hin20 : ¬ ((1 : Int32) < 0 ∨ cl19.slots.size ≤ ((1 : Int32)).toNatClampNeg) := inb_of S19 ⟨by decide, by decide⟩
      have hat20 : cl19.slots[((1 : Int32)).toNatClampNeg]? = some (.int (0 : Int32)) := H19.at hin20 rfl
      refine Goes.step ?_ (fun _ k => X17.iaload hx (j := (1 : Int32)) (v := (.int (0 : Int32))) (by rw [e17]; exact Ar19.1) (State.isArrayOf_alike hZ.alike Ar19.2.1) Ar19.2.2 hin20 hat20 (g := (mkF m 46 #[rv sy, iv (3 : Int32), rv co, rv ob1, iv (1 : Int32), .val (.long (0 : Int64)), .second, iv (2 : Int32)] [(.int (1 : Int32)), (.ref ob1)])) rfl rfl (hb hby d7_46) _ k)
      show Goes p e below _ (sF T17 m 47 #[rv sy, iv (3 : Int32), rv co, rv ob1, iv (1 : Int32), .val (.long (0 : Int64)), .second, iv (2 : Int32)] [(.int (0 : Int32))])
      refine Goes.step ?_ (fun _ k => XS.istore X17.here hx rfl (hb hby d7_47) rfl (l' := #[rv sy, iv (3 : Int32), rv co, rv ob1, iv (0 : Int32), .val (.long (0 : Int64)), .second, iv (2 : Int32)]) rfl k)
      show Goes p e below _ (sF T17 m 49 #[rv sy, iv (3 : Int32), rv co, rv ob1, iv (0 : Int32), .val (.long (0 : Int64)), .second, iv (2 : Int32)] [])
      refine Goes.step ?_ (fun _ k => XS.lload X17.here hx rfl (hb hby d7_49) rfl  k)
      show Goes p e below _ (sF T17 m 51 #[rv sy, iv (3 : Int32), rv co, rv ob1, iv (0 : Int32), .val (.long (0 : Int64)), .second, iv (2 : Int32)] [(.long (0 : Int64))])
      refine Goes.step ?_ (fun _ k => XS.lconst X17.here hx rfl (hb hby d7_51) k)
      show Goes p e below _ (sF T17 m 52 #[rv sy, iv (3 : Int32), rv co, rv ob1, iv (0 : Int32), .val (.long (0 : Int64)), .second, iv (2 : Int32)] [(.long (1 : Int64)), (.long (0 : Int64))])
      refine Goes.step ?_ (fun _ k => XS.ladd X17.here hx rfl (hb hby d7_52) rfl k)
      show Goes p e below _ (sF T17 m 53 #[rv sy, iv (3 : Int32), rv co, rv ob1, iv (0 : Int32), .val (.long (0 : Int64)), .second, iv (2 : Int32)] [(.long ((0 : Int64) + (1 : Int64)))])
      refine Goes.step ?_ (fun _ k => XS.lstore X17.here hx rfl (hb hby d7_53) rfl (l' := #[rv sy, iv (3 : Int32), rv co, rv ob1, iv (0 : Int32), .val (.long ((0 : Int64) + (1 : Int64))), .second, iv (2 : Int32)]) rfl k)
      show Goes p e below _ (sF T17 m 55 #[rv sy, iv (3 : Int32), rv co, rv ob1, iv (0 : Int32), .val (.long ((0 : Int64) + (1 : Int64))), .second, iv (2 : Int32)] [])
      refine Goes.step ?_ (fun _ k => XS.goto X17.here hx rfl (pc0 := 55) (pc' := 25) rfl (hb hby d7_55) (by decide) (by decide) k)
      show Goes p e below _ (sF T17 m 25 #[rv sy, iv (3 : Int32), rv co, rv ob1, iv (0 : Int32), .val (.long ((0 : Int64) + (1 : Int64))), .second, iv (2 : Int32)] [])
      refine Goes.step ?_ (fun _ k => XS.iload X17.here hx rfl (hb hby d7_25) rfl  k)
      show Goes p e below _ (sF T17 m 27 #[rv sy, iv (3 : Int32), rv co, rv ob1, iv (0 : Int32), .val (.long ((0 : Int64) + (1 : Int64))), .second, iv (2 : Int32)] [(.int (0 : Int32))])
      refine Goes.step ?_ (fun _ k => XS.ifYes X17.here hx rfl (pc0 := 27) (pc' := 58) rfl (hb hby d7_27) rfl ((if0 _ _).trans (flt (by decide : ¬ ((0 : Int32) < (0 : Int32)))).2.2.2) (by decide) (by decide) k)
      show Goes p e below _ (sF T17 m 58 #[rv sy, iv (3 : Int32), rv co, rv ob1, iv (0 : Int32), .val (.long ((0 : Int64) + (1 : Int64))), .second, iv (2 : Int32)] [])
      refine Goes.step ?_ (fun _ k => XS.iload X17.here hx rfl (hb hby d7_58) rfl  k)
      show Goes p e below _ (sF T17 m 60 #[rv sy, iv (3 : Int32), rv co, rv ob1, iv (0 : Int32), .val (.long ((0 : Int64) + (1 : Int64))), .second, iv (2 : Int32)] [(.int (0 : Int32))])
      refine Goes.step ?_ (fun _ k => XS.ifNo X17.here hx rfl (hb hby d7_60) rfl ((if0 _ _).trans (flt (by decide : ¬ ((0 : Int32) < (0 : Int32)))).2.2.1) k)
      show Goes p e below _ (sF T17 m 63 #[rv sy, iv (3 : Int32), rv co, rv ob1, iv (0 : Int32), .val (.long ((0 : Int64) + (1 : Int64))), .second, iv (2 : Int32)] [])
      refine Goes.step ?_ (fun _ k => XS.aloadN X17.here hx rfl (hb hby d7_63) rfl rfl k)
      show Goes p e below _ (sF T17 m 64 #[rv sy, iv (3 : Int32), rv co, rv ob1, iv (0 : Int32), .val (.long ((0 : Int64) + (1 : Int64))), .second, iv (2 : Int32)] [(.ref sy)])
      refine Goes.step ?_ (fun _ k => XS.iconst X17.here hx rfl (hb hby d7_64) k)
      show Goes p e below _ (sF T17 m 65 #[rv sy, iv (3 : Int32), rv co, rv ob1, iv (0 : Int32), .val (.long ((0 : Int64) + (1 : Int64))), .second, iv (2 : Int32)] [(.int (0 : Int32)), (.ref sy)])
      refine Goes.step ?_ (fun _ k => XS.iload X17.here hx rfl (hb hby d7_65) rfl  k)
      show Goes p e below _ (sF T17 m 67 #[rv sy, iv (3 : Int32), rv co, rv ob1, iv (0 : Int32), .val (.long ((0 : Int64) + (1 : Int64))), .second, iv (2 : Int32)] [(.int (2 : Int32)), (.int (0 : Int32)), (.ref sy)])
      have hq02_21 : ¬ b0 = b2 := by intro q; simp_all
      have hsy22 : h8[sy]? = some ({ cls := cK, slots := #[.ref pa], vm := .none } : Cell) := hsy17
      obtain ⟨T22, L22, X22, e22, N22, st22⟩ := own_same X17 hx hZ hw hown hmd e17 N17 Zs8 hsy22 V_pa_18 (i := (0 : Int32)) (j := (2 : Int32)) (r := (0 : Int32)) ⟨by decide, by decide⟩ ⟨by decide, by decide⟩ rfl rfl (by simp [hq02_21]) rfl (g := (mkF m 67 #[rv sy, iv (3 : Int32), rv co, rv ob1, iv (0 : Int32), .val (.long ((0 : Int64) + (1 : Int64))), .second, iv (2 : Int32)] [(.int (2 : Int32)), (.int (0 : Int32)), (.ref sy)])) rfl (by rw [hml]; rfl) rfl rfl (hb hby d7_67) (by decide) (by decide) (by decide) (by decide)
      refine Goes.step ?_ st22
      show Goes p e below _ (sF T22 m 72 #[rv sy, iv (3 : Int32), rv co, rv ob1, iv (0 : Int32), .val (.long ((0 : Int64) + (1 : Int64))), .second, iv (2 : Int32)] [(.int (0 : Int32))])
      refine Goes.step ?_ (fun _ k => XS.ifYes X22.here hx rfl (pc0 := 72) (pc' := 78) rfl (hb hby d7_72) rfl ((if0 _ _).trans (teq (by decide : (0 : Int32) = (0 : Int32))).1) (by decide) (by decide) k)
      show Goes p e below _ (sF T22 m 78 #[rv sy, iv (3 : Int32), rv co, rv ob1, iv (0 : Int32), .val (.long ((0 : Int64) + (1 : Int64))), .second, iv (2 : Int32)] [])
      refine Goes.step ?_ (fun _ k => XS.aloadN X22.here hx rfl (hb hby d7_78) rfl rfl k)
      show Goes p e below _ (sF T22 m 79 #[rv sy, iv (3 : Int32), rv co, rv ob1, iv (0 : Int32), .val (.long ((0 : Int64) + (1 : Int64))), .second, iv (2 : Int32)] [(.ref ob1)])
      refine Goes.step ?_ (fun _ k => XS.iload X22.here hx rfl (hb hby d7_79) rfl  k)
      show Goes p e below _ (sF T22 m 81 #[rv sy, iv (3 : Int32), rv co, rv ob1, iv (0 : Int32), .val (.long ((0 : Int64) + (1 : Int64))), .second, iv (2 : Int32)] [(.int (2 : Int32)), (.ref ob1)])
      refine Goes.step ?_ (fun _ k => XS.iconst X22.here hx rfl (hb hby d7_81) k)
      show Goes p e below _ (sF T22 m 82 #[rv sy, iv (3 : Int32), rv co, rv ob1, iv (0 : Int32), .val (.long ((0 : Int64) + (1 : Int64))), .second, iv (2 : Int32)] [(.int (1 : Int32)), (.int (2 : Int32)), (.ref ob1)])
      refine Goes.step ?_ (fun _ k => XS.iadd X22.here hx rfl (hb hby d7_82) rfl k)
      show Goes p e below _ (sF T22 m 83 #[rv sy, iv (3 : Int32), rv co, rv ob1, iv (0 : Int32), .val (.long ((0 : Int64) + (1 : Int64))), .second, iv (2 : Int32)] [(.int ((2 : Int32) + (1 : Int32))), (.ref ob1)])
      rw [show ((2 : Int32) + (1 : Int32)) = (3 : Int32) from by decide]
      show Goes p e below _ (sF T22 m 83 #[rv sy, iv (3 : Int32), rv co, rv ob1, iv (0 : Int32), .val (.long ((0 : Int64) + (1 : Int64))), .second, iv (2 : Int32)] [(.int (3 : Int32)), (.ref ob1)])
      refine Goes.step ?_ (fun _ k => XS.iload X22.here hx rfl (hb hby d7_83) rfl  k)
      show Goes p e below _ (sF T22 m 85 #[rv sy, iv (3 : Int32), rv co, rv ob1, iv (0 : Int32), .val (.long ((0 : Int64) + (1 : Int64))), .second, iv (2 : Int32)] [(.int (0 : Int32)), (.int (3 : Int32)), (.ref ob1)])
      obtain ⟨cl23, Ar23, q23, S23, N_23, H23, G23⟩ := id V_8
      have hin24 : ¬ ((3 : Int32) < 0 ∨ cl23.slots.size ≤ ((3 : Int32)).toNatClampNeg) := inb_of S23 ⟨by decide, by decide⟩
      obtain ⟨T24, h24, X24, e24, W24, st24⟩ := stI X22 hx hZ e22 Ar23 (j := (3 : Int32)) hin24 (g := (mkF m 85 #[rv sy, iv (3 : Int32), rv co, rv ob1, iv (0 : Int32), .val (.long ((0 : Int64) + (1 : Int64))), .second, iv (2 : Int32)] [(.int (0 : Int32)), (.int (3 : Int32)), (.ref ob1)])) rfl rfl (hb hby d7_85)
      have V_24 : Arv Z h24 ob1 k1 .int (4 : Int32) [(.int (-1 : Int32)), (.int (0 : Int32)), (.int (1 : Int32)), (.int (0 : Int32))] (.int (0 : Int32)) := Arv.set Ar23 q23 S23 N_23 H23 G23 rfl W24 3 rfl (Nat.le_of_ble_eq_true rfl)
      have Zs24 : n0 ≤ h24.size := Nat.le_trans Zs8 (Keep.of_wr W24).1
      have N24 := Fr.snoc X24 N22 g_ob1
      refine Goes.step ?_ st24
      show Goes p e below _ (sF T24 m 86 #[rv sy, iv (3 : Int32), rv co, rv ob1, iv (0 : Int32), .val (.long ((0 : Int64) + (1 : Int64))), .second, iv (2 : Int32)] [])
      refine Goes.step ?_ (fun _ k => XS.iinc X24.here hx rfl (hb hby d7_86) rfl (l' := #[rv sy, iv (3 : Int32), rv co, rv ob1, iv (0 : Int32), .val (.long ((0 : Int64) + (1 : Int64))), .second, iv ((2 : Int32) + (1 : Int32))]) rfl k)
      show Goes p e below _ (sF T24 m 89 #[rv sy, iv (3 : Int32), rv co, rv ob1, iv (0 : Int32), .val (.long ((0 : Int64) + (1 : Int64))), .second, iv ((2 : Int32) + (1 : Int32))] [])
      rw [show ((2 : Int32) + (1 : Int32)) = (3 : Int32) from by decide]
      show Goes p e below _ (sF T24 m 89 #[rv sy, iv (3 : Int32), rv co, rv ob1, iv (0 : Int32), .val (.long ((0 : Int64) + (1 : Int64))), .second, iv (3 : Int32)] [])
      refine Goes.step ?_ (fun _ k => XS.goto X24.here hx rfl (pc0 := 89) (pc' := 19) rfl (hb hby d7_89) (by decide) (by decide) k)
      show Goes p e below _ (sF T24 m 19 #[rv sy, iv (3 : Int32), rv co, rv ob1, iv (0 : Int32), .val (.long ((0 : Int64) + (1 : Int64))), .second, iv (3 : Int32)] [])
      refine Goes.step ?_ (fun _ k => XS.iload X24.here hx rfl (hb hby d7_19) rfl  k)
      show Goes p e below _ (sF T24 m 21 #[rv sy, iv (3 : Int32), rv co, rv ob1, iv (0 : Int32), .val (.long ((0 : Int64) + (1 : Int64))), .second, iv (3 : Int32)] [(.int (3 : Int32))])
      refine Goes.step ?_ (fun _ k => XS.iloadN X24.here hx rfl (hb hby d7_21) rfl  k)
      show Goes p e below _ (sF T24 m 22 #[rv sy, iv (3 : Int32), rv co, rv ob1, iv (0 : Int32), .val (.long ((0 : Int64) + (1 : Int64))), .second, iv (3 : Int32)] [(.int (3 : Int32)), (.int (3 : Int32))])
      refine Goes.step ?_ (fun _ k => XS.icmpYes X24.here hx rfl (pc0 := 22) (pc' := 92) rfl (hb hby d7_22) rfl (flt (by decide : ¬ ((3 : Int32) < (3 : Int32)))).2.1 (by decide) (by decide) k)
      show Goes p e below _ (sF T24 m 92 #[rv sy, iv (3 : Int32), rv co, rv ob1, iv (0 : Int32), .val (.long ((0 : Int64) + (1 : Int64))), .second, iv (3 : Int32)] [])
      have t2 : (lg2 b0 b1) = (1 : Int32) := by simp only [lg2]; (first | (simp [hq01_4, hq12_9, hq02_21]; done) | (simp_all; done) | grind)
      have t3 : (lg3 b0 b1 b2) = (0 : Int32) := by simp only [lg3]; (first | (simp [hq01_4, hq12_9, hq02_21]; done) | (simp_all; done) | grind)
      rw [show ([(.int (-1 : Int32)), (.int (0 : Int32)), (.int (1 : Int32)), (.int (0 : Int32))] : List Value) = [(.int (-1 : Int32)), (.int (0 : Int32)), (.int (lg2 b0 b1)), (.int (lg3 b0 b1 b2))] from by rw [t2, t3]] at V_24
      have K_25 := (((((Keep.refl h0 [co]).ext E1).wr W3 (Or.inr sz_ob1)).wr W8 (Or.inr sz_ob1)).wr W24 (Or.inr sz_ob1))
      have F_co_count_26 := ((((F_count.ext E1).other W3 (Or.inl ne_co_ob1)).other W8 (Or.inl ne_co_ob1)).other W24 (Or.inl ne_co_ob1))
      have E_co_27 := ((((E_co.ext E1).wr W3).wr W8).wr W24)
      exact bu92_4 h0 sy co ob1 k1 b0 b1 b2 b3 (0 : Int32) ((0 : Int64) + (1 : Int64)) (3 : Int32) X24 hx hZ hw hby hlk hret hml hown e24 N24 Zs24 K_25 V_24 F_co_count_26 E_co_27 ne_co_ob1 g_co sz_ob1 (by decide) (by decide)
  · have hsy28 : h3[sy]? = some ({ cls := cK, slots := #[.ref pa], vm := .none } : Cell) := ((Keep.of_wr W3).2.1 _ _ (E1.2 _ _ hsy) (ninS ne_sy_ob1 nin0))
    have V_pa_29 := ((V_pa.ext E1).other W3 ne_pa_ob1)
    obtain ⟨T28, L28, X28, e28, N28, st28⟩ := own_same X3 hx hZ hw hown hmd e3 N3 Zs3 hsy28 V_pa_29 (i := (0 : Int32)) (j := (1 : Int32)) (r := (0 : Int32)) ⟨by decide, by decide⟩ ⟨by decide, by decide⟩ rfl rfl (by simp [hq01_4]) rfl (g := (mkF m 67 #[rv sy, iv (3 : Int32), rv co, rv ob1, iv (0 : Int32), .val (.long (0 : Int64)), .second, iv (1 : Int32)] [(.int (1 : Int32)), (.int (0 : Int32)), (.ref sy)])) rfl (by rw [hml]; rfl) rfl rfl (hb hby d7_67) (by decide) (by decide) (by decide) (by decide)
    refine Goes.step ?_ st28
    show Goes p e below _ (sF T28 m 72 #[rv sy, iv (3 : Int32), rv co, rv ob1, iv (0 : Int32), .val (.long (0 : Int64)), .second, iv (1 : Int32)] [(.int (0 : Int32))])
    refine Goes.step ?_ (fun _ k => XS.ifYes X28.here hx rfl (pc0 := 72) (pc' := 78) rfl (hb hby d7_72) rfl ((if0 _ _).trans (teq (by decide : (0 : Int32) = (0 : Int32))).1) (by decide) (by decide) k)
    show Goes p e below _ (sF T28 m 78 #[rv sy, iv (3 : Int32), rv co, rv ob1, iv (0 : Int32), .val (.long (0 : Int64)), .second, iv (1 : Int32)] [])
    refine Goes.step ?_ (fun _ k => XS.aloadN X28.here hx rfl (hb hby d7_78) rfl rfl k)
    show Goes p e below _ (sF T28 m 79 #[rv sy, iv (3 : Int32), rv co, rv ob1, iv (0 : Int32), .val (.long (0 : Int64)), .second, iv (1 : Int32)] [(.ref ob1)])
    refine Goes.step ?_ (fun _ k => XS.iload X28.here hx rfl (hb hby d7_79) rfl  k)
    show Goes p e below _ (sF T28 m 81 #[rv sy, iv (3 : Int32), rv co, rv ob1, iv (0 : Int32), .val (.long (0 : Int64)), .second, iv (1 : Int32)] [(.int (1 : Int32)), (.ref ob1)])
    refine Goes.step ?_ (fun _ k => XS.iconst X28.here hx rfl (hb hby d7_81) k)
    show Goes p e below _ (sF T28 m 82 #[rv sy, iv (3 : Int32), rv co, rv ob1, iv (0 : Int32), .val (.long (0 : Int64)), .second, iv (1 : Int32)] [(.int (1 : Int32)), (.int (1 : Int32)), (.ref ob1)])
    refine Goes.step ?_ (fun _ k => XS.iadd X28.here hx rfl (hb hby d7_82) rfl k)
    show Goes p e below _ (sF T28 m 83 #[rv sy, iv (3 : Int32), rv co, rv ob1, iv (0 : Int32), .val (.long (0 : Int64)), .second, iv (1 : Int32)] [(.int ((1 : Int32) + (1 : Int32))), (.ref ob1)])
    rw [show ((1 : Int32) + (1 : Int32)) = (2 : Int32) from by decide]
    show Goes p e below _ (sF T28 m 83 #[rv sy, iv (3 : Int32), rv co, rv ob1, iv (0 : Int32), .val (.long (0 : Int64)), .second, iv (1 : Int32)] [(.int (2 : Int32)), (.ref ob1)])
    refine Goes.step ?_ (fun _ k => XS.iload X28.here hx rfl (hb hby d7_83) rfl  k)
    show Goes p e below _ (sF T28 m 85 #[rv sy, iv (3 : Int32), rv co, rv ob1, iv (0 : Int32), .val (.long (0 : Int64)), .second, iv (1 : Int32)] [(.int (0 : Int32)), (.int (2 : Int32)), (.ref ob1)])
    obtain ⟨cl30, Ar30, q30, S30, N_30, H30, G30⟩ := id V_3
    have hin31 : ¬ ((2 : Int32) < 0 ∨ cl30.slots.size ≤ ((2 : Int32)).toNatClampNeg) := inb_of S30 ⟨by decide, by decide⟩
    obtain ⟨T31, h31, X31, e31, W31, st31⟩ := stI X28 hx hZ e28 Ar30 (j := (2 : Int32)) hin31 (g := (mkF m 85 #[rv sy, iv (3 : Int32), rv co, rv ob1, iv (0 : Int32), .val (.long (0 : Int64)), .second, iv (1 : Int32)] [(.int (0 : Int32)), (.int (2 : Int32)), (.ref ob1)])) rfl rfl (hb hby d7_85)
    have V_31 : Arv Z h31 ob1 k1 .int (4 : Int32) [(.int (-1 : Int32)), (.int (0 : Int32)), (.int (0 : Int32)), (.int (0 : Int32))] (.int (0 : Int32)) := Arv.set Ar30 q30 S30 N_30 H30 G30 rfl W31 2 rfl (Nat.le_of_ble_eq_true rfl)
    have Zs31 : n0 ≤ h31.size := Nat.le_trans Zs3 (Keep.of_wr W31).1
    have N31 := Fr.snoc X31 N28 g_ob1
    refine Goes.step ?_ st31
    show Goes p e below _ (sF T31 m 86 #[rv sy, iv (3 : Int32), rv co, rv ob1, iv (0 : Int32), .val (.long (0 : Int64)), .second, iv (1 : Int32)] [])
    refine Goes.step ?_ (fun _ k => XS.iinc X31.here hx rfl (hb hby d7_86) rfl (l' := #[rv sy, iv (3 : Int32), rv co, rv ob1, iv (0 : Int32), .val (.long (0 : Int64)), .second, iv ((1 : Int32) + (1 : Int32))]) rfl k)
    show Goes p e below _ (sF T31 m 89 #[rv sy, iv (3 : Int32), rv co, rv ob1, iv (0 : Int32), .val (.long (0 : Int64)), .second, iv ((1 : Int32) + (1 : Int32))] [])
    rw [show ((1 : Int32) + (1 : Int32)) = (2 : Int32) from by decide]
    show Goes p e below _ (sF T31 m 89 #[rv sy, iv (3 : Int32), rv co, rv ob1, iv (0 : Int32), .val (.long (0 : Int64)), .second, iv (2 : Int32)] [])
    refine Goes.step ?_ (fun _ k => XS.goto X31.here hx rfl (pc0 := 89) (pc' := 19) rfl (hb hby d7_89) (by decide) (by decide) k)
    show Goes p e below _ (sF T31 m 19 #[rv sy, iv (3 : Int32), rv co, rv ob1, iv (0 : Int32), .val (.long (0 : Int64)), .second, iv (2 : Int32)] [])
    refine Goes.step ?_ (fun _ k => XS.iload X31.here hx rfl (hb hby d7_19) rfl  k)
    show Goes p e below _ (sF T31 m 21 #[rv sy, iv (3 : Int32), rv co, rv ob1, iv (0 : Int32), .val (.long (0 : Int64)), .second, iv (2 : Int32)] [(.int (2 : Int32))])
    refine Goes.step ?_ (fun _ k => XS.iloadN X31.here hx rfl (hb hby d7_21) rfl  k)
    show Goes p e below _ (sF T31 m 22 #[rv sy, iv (3 : Int32), rv co, rv ob1, iv (0 : Int32), .val (.long (0 : Int64)), .second, iv (2 : Int32)] [(.int (3 : Int32)), (.int (2 : Int32))])
    refine Goes.step ?_ (fun _ k => XS.icmpNo X31.here hx rfl (hb hby d7_22) rfl (tlt (by decide : (2 : Int32) < (3 : Int32))).2.1 k)
    show Goes p e below _ (sF T31 m 25 #[rv sy, iv (3 : Int32), rv co, rv ob1, iv (0 : Int32), .val (.long (0 : Int64)), .second, iv (2 : Int32)] [])
    refine Goes.step ?_ (fun _ k => XS.iload X31.here hx rfl (hb hby d7_25) rfl  k)
    show Goes p e below _ (sF T31 m 27 #[rv sy, iv (3 : Int32), rv co, rv ob1, iv (0 : Int32), .val (.long (0 : Int64)), .second, iv (2 : Int32)] [(.int (0 : Int32))])
    refine Goes.step ?_ (fun _ k => XS.ifYes X31.here hx rfl (pc0 := 27) (pc' := 58) rfl (hb hby d7_27) rfl ((if0 _ _).trans (flt (by decide : ¬ ((0 : Int32) < (0 : Int32)))).2.2.2) (by decide) (by decide) k)
    show Goes p e below _ (sF T31 m 58 #[rv sy, iv (3 : Int32), rv co, rv ob1, iv (0 : Int32), .val (.long (0 : Int64)), .second, iv (2 : Int32)] [])
    refine Goes.step ?_ (fun _ k => XS.iload X31.here hx rfl (hb hby d7_58) rfl  k)
    show Goes p e below _ (sF T31 m 60 #[rv sy, iv (3 : Int32), rv co, rv ob1, iv (0 : Int32), .val (.long (0 : Int64)), .second, iv (2 : Int32)] [(.int (0 : Int32))])
    refine Goes.step ?_ (fun _ k => XS.ifNo X31.here hx rfl (hb hby d7_60) rfl ((if0 _ _).trans (flt (by decide : ¬ ((0 : Int32) < (0 : Int32)))).2.2.1) k)
    show Goes p e below _ (sF T31 m 63 #[rv sy, iv (3 : Int32), rv co, rv ob1, iv (0 : Int32), .val (.long (0 : Int64)), .second, iv (2 : Int32)] [])
    refine Goes.step ?_ (fun _ k => XS.aloadN X31.here hx rfl (hb hby d7_63) rfl rfl k)
    show Goes p e below _ (sF T31 m 64 #[rv sy, iv (3 : Int32), rv co, rv ob1, iv (0 : Int32), .val (.long (0 : Int64)), .second, iv (2 : Int32)] [(.ref sy)])
    refine Goes.step ?_ (fun _ k => XS.iconst X31.here hx rfl (hb hby d7_64) k)
    show Goes p e below _ (sF T31 m 65 #[rv sy, iv (3 : Int32), rv co, rv ob1, iv (0 : Int32), .val (.long (0 : Int64)), .second, iv (2 : Int32)] [(.int (0 : Int32)), (.ref sy)])
    refine Goes.step ?_ (fun _ k => XS.iload X31.here hx rfl (hb hby d7_65) rfl  k)
    show Goes p e below _ (sF T31 m 67 #[rv sy, iv (3 : Int32), rv co, rv ob1, iv (0 : Int32), .val (.long (0 : Int64)), .second, iv (2 : Int32)] [(.int (2 : Int32)), (.int (0 : Int32)), (.ref sy)])
    by_cases hq02_32 : b0 = b2
    · have hsy33 : h31[sy]? = some ({ cls := cK, slots := #[.ref pa], vm := .none } : Cell) := ((Keep.of_wr W31).2.1 _ _ hsy28 (ninS ne_sy_ob1 nin0))
      have V_pa_34 := (V_pa_29.other W31 ne_pa_ob1)
      obtain ⟨T33, L33, X33, e33, N33, st33⟩ := own_same X31 hx hZ hw hown hmd e31 N31 Zs31 hsy33 V_pa_34 (i := (0 : Int32)) (j := (2 : Int32)) (r := (1 : Int32)) ⟨by decide, by decide⟩ ⟨by decide, by decide⟩ rfl rfl (by simp [hq02_32]) rfl (g := (mkF m 67 #[rv sy, iv (3 : Int32), rv co, rv ob1, iv (0 : Int32), .val (.long (0 : Int64)), .second, iv (2 : Int32)] [(.int (2 : Int32)), (.int (0 : Int32)), (.ref sy)])) rfl (by rw [hml]; rfl) rfl rfl (hb hby d7_67) (by decide) (by decide) (by decide) (by decide)
      refine Goes.step ?_ st33
      show Goes p e below _ (sF T33 m 72 #[rv sy, iv (3 : Int32), rv co, rv ob1, iv (0 : Int32), .val (.long (0 : Int64)), .second, iv (2 : Int32)] [(.int (1 : Int32))])
      refine Goes.step ?_ (fun _ k => XS.ifNo X33.here hx rfl (hb hby d7_72) rfl ((if0 _ _).trans (feq (by decide : ¬ ((1 : Int32) = (0 : Int32)))).1) k)
      show Goes p e below _ (sF T33 m 75 #[rv sy, iv (3 : Int32), rv co, rv ob1, iv (0 : Int32), .val (.long (0 : Int64)), .second, iv (2 : Int32)] [])
      refine Goes.step ?_ (fun _ k => XS.iinc X33.here hx rfl (hb hby d7_75) rfl (l' := #[rv sy, iv (3 : Int32), rv co, rv ob1, iv ((0 : Int32) + (1 : Int32)), .val (.long (0 : Int64)), .second, iv (2 : Int32)]) rfl k)
      show Goes p e below _ (sF T33 m 78 #[rv sy, iv (3 : Int32), rv co, rv ob1, iv ((0 : Int32) + (1 : Int32)), .val (.long (0 : Int64)), .second, iv (2 : Int32)] [])
      rw [show ((0 : Int32) + (1 : Int32)) = (1 : Int32) from by decide]
      show Goes p e below _ (sF T33 m 78 #[rv sy, iv (3 : Int32), rv co, rv ob1, iv (1 : Int32), .val (.long (0 : Int64)), .second, iv (2 : Int32)] [])
      refine Goes.step ?_ (fun _ k => XS.aloadN X33.here hx rfl (hb hby d7_78) rfl rfl k)
      show Goes p e below _ (sF T33 m 79 #[rv sy, iv (3 : Int32), rv co, rv ob1, iv (1 : Int32), .val (.long (0 : Int64)), .second, iv (2 : Int32)] [(.ref ob1)])
      refine Goes.step ?_ (fun _ k => XS.iload X33.here hx rfl (hb hby d7_79) rfl  k)
      show Goes p e below _ (sF T33 m 81 #[rv sy, iv (3 : Int32), rv co, rv ob1, iv (1 : Int32), .val (.long (0 : Int64)), .second, iv (2 : Int32)] [(.int (2 : Int32)), (.ref ob1)])
      refine Goes.step ?_ (fun _ k => XS.iconst X33.here hx rfl (hb hby d7_81) k)
      show Goes p e below _ (sF T33 m 82 #[rv sy, iv (3 : Int32), rv co, rv ob1, iv (1 : Int32), .val (.long (0 : Int64)), .second, iv (2 : Int32)] [(.int (1 : Int32)), (.int (2 : Int32)), (.ref ob1)])
      refine Goes.step ?_ (fun _ k => XS.iadd X33.here hx rfl (hb hby d7_82) rfl k)
      show Goes p e below _ (sF T33 m 83 #[rv sy, iv (3 : Int32), rv co, rv ob1, iv (1 : Int32), .val (.long (0 : Int64)), .second, iv (2 : Int32)] [(.int ((2 : Int32) + (1 : Int32))), (.ref ob1)])
      rw [show ((2 : Int32) + (1 : Int32)) = (3 : Int32) from by decide]
      show Goes p e below _ (sF T33 m 83 #[rv sy, iv (3 : Int32), rv co, rv ob1, iv (1 : Int32), .val (.long (0 : Int64)), .second, iv (2 : Int32)] [(.int (3 : Int32)), (.ref ob1)])
      refine Goes.step ?_ (fun _ k => XS.iload X33.here hx rfl (hb hby d7_83) rfl  k)
      show Goes p e below _ (sF T33 m 85 #[rv sy, iv (3 : Int32), rv co, rv ob1, iv (1 : Int32), .val (.long (0 : Int64)), .second, iv (2 : Int32)] [(.int (1 : Int32)), (.int (3 : Int32)), (.ref ob1)])
      obtain ⟨cl35, Ar35, q35, S35, N_35, H35, G35⟩ := id V_31
      have hin36 : ¬ ((3 : Int32) < 0 ∨ cl35.slots.size ≤ ((3 : Int32)).toNatClampNeg) := inb_of S35 ⟨by decide, by decide⟩
      obtain ⟨T36, h36, X36, e36, W36, st36⟩ := stI X33 hx hZ e33 Ar35 (j := (3 : Int32)) hin36 (g := (mkF m 85 #[rv sy, iv (3 : Int32), rv co, rv ob1, iv (1 : Int32), .val (.long (0 : Int64)), .second, iv (2 : Int32)] [(.int (1 : Int32)), (.int (3 : Int32)), (.ref ob1)])) rfl rfl (hb hby d7_85)
      have V_36 : Arv Z h36 ob1 k1 .int (4 : Int32) [(.int (-1 : Int32)), (.int (0 : Int32)), (.int (0 : Int32)), (.int (1 : Int32))] (.int (0 : Int32)) := Arv.set Ar35 q35 S35 N_35 H35 G35 rfl W36 3 rfl (Nat.le_of_ble_eq_true rfl)
      have Zs36 : n0 ≤ h36.size := Nat.le_trans Zs31 (Keep.of_wr W36).1
      have N36 := Fr.snoc X36 N33 g_ob1
      refine Goes.step ?_ st36
      show Goes p e below _ (sF T36 m 86 #[rv sy, iv (3 : Int32), rv co, rv ob1, iv (1 : Int32), .val (.long (0 : Int64)), .second, iv (2 : Int32)] [])
      refine Goes.step ?_ (fun _ k => XS.iinc X36.here hx rfl (hb hby d7_86) rfl (l' := #[rv sy, iv (3 : Int32), rv co, rv ob1, iv (1 : Int32), .val (.long (0 : Int64)), .second, iv ((2 : Int32) + (1 : Int32))]) rfl k)
      show Goes p e below _ (sF T36 m 89 #[rv sy, iv (3 : Int32), rv co, rv ob1, iv (1 : Int32), .val (.long (0 : Int64)), .second, iv ((2 : Int32) + (1 : Int32))] [])
      rw [show ((2 : Int32) + (1 : Int32)) = (3 : Int32) from by decide]
      show Goes p e below _ (sF T36 m 89 #[rv sy, iv (3 : Int32), rv co, rv ob1, iv (1 : Int32), .val (.long (0 : Int64)), .second, iv (3 : Int32)] [])
      refine Goes.step ?_ (fun _ k => XS.goto X36.here hx rfl (pc0 := 89) (pc' := 19) rfl (hb hby d7_89) (by decide) (by decide) k)
      show Goes p e below _ (sF T36 m 19 #[rv sy, iv (3 : Int32), rv co, rv ob1, iv (1 : Int32), .val (.long (0 : Int64)), .second, iv (3 : Int32)] [])
      refine Goes.step ?_ (fun _ k => XS.iload X36.here hx rfl (hb hby d7_19) rfl  k)
      show Goes p e below _ (sF T36 m 21 #[rv sy, iv (3 : Int32), rv co, rv ob1, iv (1 : Int32), .val (.long (0 : Int64)), .second, iv (3 : Int32)] [(.int (3 : Int32))])
      refine Goes.step ?_ (fun _ k => XS.iloadN X36.here hx rfl (hb hby d7_21) rfl  k)
      show Goes p e below _ (sF T36 m 22 #[rv sy, iv (3 : Int32), rv co, rv ob1, iv (1 : Int32), .val (.long (0 : Int64)), .second, iv (3 : Int32)] [(.int (3 : Int32)), (.int (3 : Int32))])
      refine Goes.step ?_ (fun _ k => XS.icmpYes X36.here hx rfl (pc0 := 22) (pc' := 92) rfl (hb hby d7_22) rfl (flt (by decide : ¬ ((3 : Int32) < (3 : Int32)))).2.1 (by decide) (by decide) k)
      show Goes p e below _ (sF T36 m 92 #[rv sy, iv (3 : Int32), rv co, rv ob1, iv (1 : Int32), .val (.long (0 : Int64)), .second, iv (3 : Int32)] [])
      have t2 : (lg2 b0 b1) = (0 : Int32) := by simp only [lg2]; (first | (simp [hq01_4, hq02_32]; done) | (simp_all; done) | grind)
      have t3 : (lg3 b0 b1 b2) = (1 : Int32) := by simp only [lg3]; (first | (simp [hq01_4, hq02_32]; done) | (simp_all; done) | grind)
      rw [show ([(.int (-1 : Int32)), (.int (0 : Int32)), (.int (0 : Int32)), (.int (1 : Int32))] : List Value) = [(.int (-1 : Int32)), (.int (0 : Int32)), (.int (lg2 b0 b1)), (.int (lg3 b0 b1 b2))] from by rw [t2, t3]] at V_36
      have K_37 := (((((Keep.refl h0 [co]).ext E1).wr W3 (Or.inr sz_ob1)).wr W31 (Or.inr sz_ob1)).wr W36 (Or.inr sz_ob1))
      have F_co_count_38 := ((((F_count.ext E1).other W3 (Or.inl ne_co_ob1)).other W31 (Or.inl ne_co_ob1)).other W36 (Or.inl ne_co_ob1))
      have E_co_39 := ((((E_co.ext E1).wr W3).wr W31).wr W36)
      exact bu92_4 h0 sy co ob1 k1 b0 b1 b2 b3 (1 : Int32) (0 : Int64) (3 : Int32) X36 hx hZ hw hby hlk hret hml hown e36 N36 Zs36 K_37 V_36 F_co_count_38 E_co_39 ne_co_ob1 g_co sz_ob1 (by decide) (by decide)
    · have hsy40 : h31[sy]? = some ({ cls := cK, slots := #[.ref pa], vm := .none } : Cell) := ((Keep.of_wr W31).2.1 _ _ hsy28 (ninS ne_sy_ob1 nin0))
      have V_pa_41 := (V_pa_29.other W31 ne_pa_ob1)
      obtain ⟨T40, L40, X40, e40, N40, st40⟩ := own_same X31 hx hZ hw hown hmd e31 N31 Zs31 hsy40 V_pa_41 (i := (0 : Int32)) (j := (2 : Int32)) (r := (0 : Int32)) ⟨by decide, by decide⟩ ⟨by decide, by decide⟩ rfl rfl (by simp [hq02_32]) rfl (g := (mkF m 67 #[rv sy, iv (3 : Int32), rv co, rv ob1, iv (0 : Int32), .val (.long (0 : Int64)), .second, iv (2 : Int32)] [(.int (2 : Int32)), (.int (0 : Int32)), (.ref sy)])) rfl (by rw [hml]; rfl) rfl rfl (hb hby d7_67) (by decide) (by decide) (by decide) (by decide)
      refine Goes.step ?_ st40
      show Goes p e below _ (sF T40 m 72 #[rv sy, iv (3 : Int32), rv co, rv ob1, iv (0 : Int32), .val (.long (0 : Int64)), .second, iv (2 : Int32)] [(.int (0 : Int32))])
      refine Goes.step ?_ (fun _ k => XS.ifYes X40.here hx rfl (pc0 := 72) (pc' := 78) rfl (hb hby d7_72) rfl ((if0 _ _).trans (teq (by decide : (0 : Int32) = (0 : Int32))).1) (by decide) (by decide) k)
      show Goes p e below _ (sF T40 m 78 #[rv sy, iv (3 : Int32), rv co, rv ob1, iv (0 : Int32), .val (.long (0 : Int64)), .second, iv (2 : Int32)] [])
      refine Goes.step ?_ (fun _ k => XS.aloadN X40.here hx rfl (hb hby d7_78) rfl rfl k)
      show Goes p e below _ (sF T40 m 79 #[rv sy, iv (3 : Int32), rv co, rv ob1, iv (0 : Int32), .val (.long (0 : Int64)), .second, iv (2 : Int32)] [(.ref ob1)])
      refine Goes.step ?_ (fun _ k => XS.iload X40.here hx rfl (hb hby d7_79) rfl  k)
      show Goes p e below _ (sF T40 m 81 #[rv sy, iv (3 : Int32), rv co, rv ob1, iv (0 : Int32), .val (.long (0 : Int64)), .second, iv (2 : Int32)] [(.int (2 : Int32)), (.ref ob1)])
      refine Goes.step ?_ (fun _ k => XS.iconst X40.here hx rfl (hb hby d7_81) k)
      show Goes p e below _ (sF T40 m 82 #[rv sy, iv (3 : Int32), rv co, rv ob1, iv (0 : Int32), .val (.long (0 : Int64)), .second, iv (2 : Int32)] [(.int (1 : Int32)), (.int (2 : Int32)), (.ref ob1)])
      refine Goes.step ?_ (fun _ k => XS.iadd X40.here hx rfl (hb hby d7_82) rfl k)
      show Goes p e below _ (sF T40 m 83 #[rv sy, iv (3 : Int32), rv co, rv ob1, iv (0 : Int32), .val (.long (0 : Int64)), .second, iv (2 : Int32)] [(.int ((2 : Int32) + (1 : Int32))), (.ref ob1)])
      rw [show ((2 : Int32) + (1 : Int32)) = (3 : Int32) from by decide]
      show Goes p e below _ (sF T40 m 83 #[rv sy, iv (3 : Int32), rv co, rv ob1, iv (0 : Int32), .val (.long (0 : Int64)), .second, iv (2 : Int32)] [(.int (3 : Int32)), (.ref ob1)])
      refine Goes.step ?_ (fun _ k => XS.iload X40.here hx rfl (hb hby d7_83) rfl  k)
      show Goes p e below _ (sF T40 m 85 #[rv sy, iv (3 : Int32), rv co, rv ob1, iv (0 : Int32), .val (.long (0 : Int64)), .second, iv (2 : Int32)] [(.int (0 : Int32)), (.int (3 : Int32)), (.ref ob1)])
      obtain ⟨cl42, Ar42, q42, S42, N_42, H42, G42⟩ := id V_31
      have hin43 : ¬ ((3 : Int32) < 0 ∨ cl42.slots.size ≤ ((3 : Int32)).toNatClampNeg) := inb_of S42 ⟨by decide, by decide⟩
      obtain ⟨T43, h43, X43, e43, W43, st43⟩ := stI X40 hx hZ e40 Ar42 (j := (3 : Int32)) hin43 (g := (mkF m 85 #[rv sy, iv (3 : Int32), rv co, rv ob1, iv (0 : Int32), .val (.long (0 : Int64)), .second, iv (2 : Int32)] [(.int (0 : Int32)), (.int (3 : Int32)), (.ref ob1)])) rfl rfl (hb hby d7_85)
      have V_43 : Arv Z h43 ob1 k1 .int (4 : Int32) [(.int (-1 : Int32)), (.int (0 : Int32)), (.int (0 : Int32)), (.int (0 : Int32))] (.int (0 : Int32)) := Arv.set Ar42 q42 S42 N_42 H42 G42 rfl W43 3 rfl (Nat.le_of_ble_eq_true rfl)
      have Zs43 : n0 ≤ h43.size := Nat.le_trans Zs31 (Keep.of_wr W43).1
      have N43 := Fr.snoc X43 N40 g_ob1
      refine Goes.step ?_ st43
      show Goes p e below _ (sF T43 m 86 #[rv sy, iv (3 : Int32), rv co, rv ob1, iv (0 : Int32), .val (.long (0 : Int64)), .second, iv (2 : Int32)] [])
      refine Goes.step ?_ (fun _ k => XS.iinc X43.here hx rfl (hb hby d7_86) rfl (l' := #[rv sy, iv (3 : Int32), rv co, rv ob1, iv (0 : Int32), .val (.long (0 : Int64)), .second, iv ((2 : Int32) + (1 : Int32))]) rfl k)
      show Goes p e below _ (sF T43 m 89 #[rv sy, iv (3 : Int32), rv co, rv ob1, iv (0 : Int32), .val (.long (0 : Int64)), .second, iv ((2 : Int32) + (1 : Int32))] [])
      rw [show ((2 : Int32) + (1 : Int32)) = (3 : Int32) from by decide]
      show Goes p e below _ (sF T43 m 89 #[rv sy, iv (3 : Int32), rv co, rv ob1, iv (0 : Int32), .val (.long (0 : Int64)), .second, iv (3 : Int32)] [])
      refine Goes.step ?_ (fun _ k => XS.goto X43.here hx rfl (pc0 := 89) (pc' := 19) rfl (hb hby d7_89) (by decide) (by decide) k)
      show Goes p e below _ (sF T43 m 19 #[rv sy, iv (3 : Int32), rv co, rv ob1, iv (0 : Int32), .val (.long (0 : Int64)), .second, iv (3 : Int32)] [])
      refine Goes.step ?_ (fun _ k => XS.iload X43.here hx rfl (hb hby d7_19) rfl  k)
      show Goes p e below _ (sF T43 m 21 #[rv sy, iv (3 : Int32), rv co, rv ob1, iv (0 : Int32), .val (.long (0 : Int64)), .second, iv (3 : Int32)] [(.int (3 : Int32))])
      refine Goes.step ?_ (fun _ k => XS.iloadN X43.here hx rfl (hb hby d7_21) rfl  k)
      show Goes p e below _ (sF T43 m 22 #[rv sy, iv (3 : Int32), rv co, rv ob1, iv (0 : Int32), .val (.long (0 : Int64)), .second, iv (3 : Int32)] [(.int (3 : Int32)), (.int (3 : Int32))])
      refine Goes.step ?_ (fun _ k => XS.icmpYes X43.here hx rfl (pc0 := 22) (pc' := 92) rfl (hb hby d7_22) rfl (flt (by decide : ¬ ((3 : Int32) < (3 : Int32)))).2.1 (by decide) (by decide) k)
      show Goes p e below _ (sF T43 m 92 #[rv sy, iv (3 : Int32), rv co, rv ob1, iv (0 : Int32), .val (.long (0 : Int64)), .second, iv (3 : Int32)] [])
      have t2 : (lg2 b0 b1) = (0 : Int32) := by simp only [lg2]; (first | (simp [hq01_4, hq02_32]; done) | (simp_all; done) | grind)
      have t3 : (lg3 b0 b1 b2) = (0 : Int32) := by simp only [lg3]; (first | (simp [hq01_4, hq02_32]; done) | (simp_all; done) | grind)
      rw [show ([(.int (-1 : Int32)), (.int (0 : Int32)), (.int (0 : Int32)), (.int (0 : Int32))] : List Value) = [(.int (-1 : Int32)), (.int (0 : Int32)), (.int (lg2 b0 b1)), (.int (lg3 b0 b1 b2))] from by rw [t2, t3]] at V_43
      have K_44 := (((((Keep.refl h0 [co]).ext E1).wr W3 (Or.inr sz_ob1)).wr W31 (Or.inr sz_ob1)).wr W43 (Or.inr sz_ob1))
      have F_co_count_45 := ((((F_count.ext E1).other W3 (Or.inl ne_co_ob1)).other W31 (Or.inl ne_co_ob1)).other W43 (Or.inl ne_co_ob1))
      have E_co_46 := ((((E_co.ext E1).wr W3).wr W31).wr W43)
      exact bu92_4 h0 sy co ob1 k1 b0 b1 b2 b3 (0 : Int32) (0 : Int64) (3 : Int32) X43 hx hZ hw hby hlk hret hml hown e43 N43 Zs43 K_44 V_43 F_co_count_45 E_co_46 ne_co_ob1 g_co sz_ob1 (by decide) (by decide)
theorem ef_bu5 (m : MethodId) (x0 : Addr) (x1 : Int32) (x2 : Addr) : entryFrame m #[(.ref x0), (.int x1), (.ref x2)] 8 = mkF m 0 #[rv x0, iv x1, rv x2, .unset, .unset, .unset, .unset, .unset] [] := by first | (simp [entryFrame, mkF, argsToLocals, Value.category]; done) | rfl
def QBu5 (Z : State) (co : Addr) (b0 b1 b2 b3 b4 : Int32) (h0 : Heap) (n0 : Nat) (v : Option Value) (h : Heap) (L : List Loc) : Prop := ∃ (r : Addr) (kr : ClassId) (q : Int64), v = some (.ref r) ∧ Fr n0 L ∧ Keep h0 h [co] ∧ h0.size ≤ r ∧ Arv Z h r kr .int (5 : Int32) [(.int (-1 : Int32)), (.int (0 : Int32)), (.int (lg2 b0 b1)), (.int (lg3 b0 b1 b2)), (.int (lg4 b0 b1 b2 b3))] (.int (0 : Int32)) ∧ Fld Z h co "com/example/borderline/borderline/Comparisons" "count" "J" (.long q) ∧ ¬ (lcmpW q ((3 : Int32).toInt64)) < 0 ∧ ¬ (0 : Int32) < (lcmpW q ((6 : Int32).toInt64))
set_option maxRecDepth 65536 in
set_option maxHeartbeats 40000000 in
theorem bu92_5 {p : Program} {l : Launch} {e : Env} {s : State} {m : MethodId} {args : Array Value} {below : List Frame} {meth : Method} {c : Code} {T0 : State} {locs : List Loc} {Z : State} {a0 : Array Value} {h0 : Heap} {n0 : Nat} (hh : Heap) (sy : Addr) (co : Addr) (tb : Addr) (kt : ClassId) (b0 : Int32) (b1 : Int32) (b2 : Int32) (b3 : Int32) (b4 : Int32) (k : Int32) (fb : Int64) (i : Int32)
    (X0 : Stand p l e ({ frames := 2, cells := 1, slots := 5, locals := 40 } : Room) s m args below meth c T0 locs (0 + 1) (0 + 5)) (hx : p.tables.exec = Jvm.exec) (hZ : Z.Warmed39 s.vm) (hw : ∀ d ∈ tables_1, d.before a0 Z = true) (hby : c.code = prog_7_method_8_code) (hlk : meth.locks = false) (hret : meth.sig.returnType = some (.array .int)) (hml : c.maxLocals = 8) (hown : s.vm.findClass "com/example/borderline/borderline/BorderTable" = some m.cls) (e0 : T0.heap = h0) (N0 : Fr n0 locs) (Z0 : n0 ≤ h0.size) (K_0 : Keep hh h0 [co]) (V_tb : Arv Z h0 tb kt .int (5 : Int32) [(.int (-1 : Int32)), (.int (0 : Int32)), (.int (lg2 b0 b1)), (.int (lg3 b0 b1 b2)), (.int (lg4 b0 b1 b2 b3))] (.int (0 : Int32))) (F_count : Fld Z h0 co "com/example/borderline/borderline/Comparisons" "count" "J" (.long (0 : Int64))) (E_co : Exa Z h0 co "com/example/borderline/borderline/Comparisons") (ne_co_tb : co ≠ tb) (g_co : n0 ≤ co) (sz_tb : hh.size ≤ tb) (l1 : ¬ (lcmpW ((0 : Int64) + ((maxV ((4 : Int32) - (1 : Int32)) (0 : Int32)).toInt64 + fb)) ((3 : Int32).toInt64)) < 0) (l2 : ¬ (0 : Int32) < (lcmpW ((0 : Int64) + ((maxV ((4 : Int32) - (1 : Int32)) (0 : Int32)).toInt64 + fb)) ((6 : Int32).toInt64))) :
    Goes p e below (fun o U' => ∃ v L, o = .returned v ∧ QBu5 Z co b0 b1 b2 b3 b4 hh n0 v U'.heap L ∧ FrameEnd s o U' L ({ frames := 2, cells := 1, slots := 5, locals := 40 } : Room).cells ({ frames := 2, cells := 1, slots := 5, locals := 40 } : Room).slots) (T0.setTop (mkF m 92 #[rv sy, iv (4 : Int32), rv co, rv tb, iv k, .val (.long fb), .second, iv i] [])) := by
  show Goes p e below _ (sF T0 m 92 #[rv sy, iv (4 : Int32), rv co, rv tb, iv k, .val (.long fb), .second, iv i] [])
  refine Goes.step ?_ (fun _ k => XS.aloadN X0.here hx rfl (hb hby d7_92) rfl rfl k)
  show Goes p e below _ (sF T0 m 93 #[rv sy, iv (4 : Int32), rv co, rv tb, iv k, .val (.long fb), .second, iv i] [(.ref co)])
  refine Goes.step ?_ (fun _ k => XS.iloadN X0.here hx rfl (hb hby d7_93) rfl  k)
  show Goes p e below _ (sF T0 m 94 #[rv sy, iv (4 : Int32), rv co, rv tb, iv k, .val (.long fb), .second, iv i] [(.int (4 : Int32)), (.ref co)])
  refine Goes.step ?_ (fun _ k => XS.iconst X0.here hx rfl (hb hby d7_94) k)
  show Goes p e below _ (sF T0 m 95 #[rv sy, iv (4 : Int32), rv co, rv tb, iv k, .val (.long fb), .second, iv i] [(.int (1 : Int32)), (.int (4 : Int32)), (.ref co)])
  refine Goes.step ?_ (fun _ k => XS.isub X0.here hx rfl (hb hby d7_95) rfl k)
  show Goes p e below _ (sF T0 m 96 #[rv sy, iv (4 : Int32), rv co, rv tb, iv k, .val (.long fb), .second, iv i] [(.int ((4 : Int32) - (1 : Int32))), (.ref co)])
  refine Goes.step ?_ (fun _ k => XS.iconst X0.here hx rfl (hb hby d7_96) k)
  show Goes p e below _ (sF T0 m 97 #[rv sy, iv (4 : Int32), rv co, rv tb, iv k, .val (.long fb), .second, iv i] [(.int (0 : Int32)), (.int ((4 : Int32) - (1 : Int32))), (.ref co)])
  obtain ⟨_, _, ⟨T1, L1, k1, n1⟩, -, X1, ⟨Lc1, hQ1, l1, y1, z1⟩, st1⟩ := Jvm.LawKit.callS X0 hx (y := (⟨"java/lang/Math", "max", "(II)I"⟩ : MethodName)) hown (mvT hZ (hw _ (List.mem_of_getElem? (i := 42) rfl))) (mvT hZ (hw _ (List.mem_of_getElem? (i := 24) rfl))) (mvT hZ (hw _ (List.mem_of_getElem? (i := 25) rfl))) (mvT hZ (hw _ (List.mem_of_getElem? (i := 26) rfl))) (by decide) (backOf (W := 1) (rmMax l Z a0 hw [] ((4 : Int32) - (1 : Int32)) (0 : Int32)  h0 n0 Z0 ) hZ (hw _ (List.mem_of_getElem? (i := 26) rfl)) (hw _ (List.mem_of_getElem? (i := 25) rfl)) (by decide) (by decide)) (g := (mkF m 97 #[rv sy, iv (4 : Int32), rv co, rv tb, iv k, .val (.long fb), .second, iv i] [(.int (0 : Int32)), (.int ((4 : Int32) - (1 : Int32))), (.ref co)])) rfl (by rw [hml]; rfl) (argsL := [(.int ((4 : Int32) - (1 : Int32))), (.int (0 : Int32))]) (rest := [(.ref co)]) (lenOf pd__28II_29I rfl) rfl (by show 2 * 0 + _ ≤ _; exact Nat.le_of_eq rfl) (hb hby d7_97) (fun _ _ => ⟨rfl, e0, (by decide : 0 + 1 + 0 ≤ _), (by decide : 0 + 5 + 0 ≤ _)⟩)
  dsimp only [Pt.U, Pt.locs, Pt.cells, Pt.slots] at X1 l1 y1 z1 st1 hQ1
  subst l1 y1 z1
  obtain ⟨rfl, N1q, e1⟩ := hQ1
  have N1 := Fr.app N0 N1q
  refine Goes.step ?_ st1
  show Goes p e below _ (sF T1 m 100 #[rv sy, iv (4 : Int32), rv co, rv tb, iv k, .val (.long fb), .second, iv i] [(.int (maxV ((4 : Int32) - (1 : Int32)) (0 : Int32))), (.ref co)])
  refine Goes.step ?_ (fun _ k => XS.i2l X1.here hx rfl (hb hby d7_100) rfl k)
  show Goes p e below _ (sF T1 m 101 #[rv sy, iv (4 : Int32), rv co, rv tb, iv k, .val (.long fb), .second, iv i] [(.long ((maxV ((4 : Int32) - (1 : Int32)) (0 : Int32)).toInt64)), (.ref co)])
  refine Goes.step ?_ (fun _ k => XS.lload X1.here hx rfl (hb hby d7_101) rfl  k)
  show Goes p e below _ (sF T1 m 103 #[rv sy, iv (4 : Int32), rv co, rv tb, iv k, .val (.long fb), .second, iv i] [(.long fb), (.long ((maxV ((4 : Int32) - (1 : Int32)) (0 : Int32)).toInt64)), (.ref co)])
  refine Goes.step ?_ (fun _ k => XS.ladd X1.here hx rfl (hb hby d7_103) rfl k)
  show Goes p e below _ (sF T1 m 104 #[rv sy, iv (4 : Int32), rv co, rv tb, iv k, .val (.long fb), .second, iv i] [(.long (((maxV ((4 : Int32) - (1 : Int32)) (0 : Int32)).toInt64) + fb)), (.ref co)])
  obtain ⟨cq2, kq2, q2a, q2b, q2c⟩ := isOf hZ e1 E_co
  obtain ⟨_, _, ⟨T2, L2, k2, n2⟩, -, X2, ⟨Lc2, hQ2, l2, y2, z2⟩, st2⟩ := X1.virtualBack hx (y := (⟨"com/example/borderline/borderline/Comparisons", "add", "(J)V"⟩ : MethodName)) (z := (⟨"com/example/borderline/borderline/Comparisons", "add", "(J)V"⟩ : MethodName)) hown (mvT hZ (hw _ (List.mem_of_getElem? (i := 43) rfl))) (mvT hZ (hw _ (List.mem_of_getElem? (i := 44) rfl))) (notFace_of_selects (args := #[]) (mvT hZ (hw _ (List.mem_of_getElem? (i := 46) rfl)))) (mvT hZ (hw _ (List.mem_of_getElem? (i := 46) rfl))) (mvT hZ (hw _ (List.mem_of_getElem? (i := 45) rfl))) (by decide) (backOf (W := 0) (rmAdd l Z a0 hw [] co (((maxV ((4 : Int32) - (1 : Int32)) (0 : Int32)).toInt64) + fb) (0 : Int64) h0 n0 Z0 F_count E_co g_co) hZ (hw _ (List.mem_of_getElem? (i := 47) rfl)) (hw _ (List.mem_of_getElem? (i := 4) rfl)) (by decide) (by decide)) q2a q2c (g := (mkF m 104 #[rv sy, iv (4 : Int32), rv co, rv tb, iv k, .val (.long fb), .second, iv i] [(.long (((maxV ((4 : Int32) - (1 : Int32)) (0 : Int32)).toInt64) + fb)), (.ref co)])) rfl (by rw [hml]; rfl) (Steps.refl _) (argsL := [(.long (((maxV ((4 : Int32) - (1 : Int32)) (0 : Int32)).toInt64) + fb))]) (rest := []) (lenOf pd__28J_29V rfl) rfl (by show 2 * 0 + _ ≤ _; exact Nat.le_of_eq rfl) (hb hby d7_104) (fun _ _ => ⟨rfl, e1, (by decide : 0 + 1 + 0 ≤ _), (by decide : 0 + 5 + 0 ≤ _)⟩)
  dsimp only [Pt.U, Pt.locs, Pt.cells, Pt.slots] at X2 l2 y2 z2 st2 hQ2
  subst l2 y2 z2
  obtain ⟨rfl, N2q, K2, G2⟩ := hQ2
  have N2 := Fr.app N1 N2q
  refine Goes.step ?_ (fun _ k => st2.trans k)
  have KK := K_0.trans K2 (allS (Or.inl (List.mem_of_getElem? (i := 0) rfl)) all0)
  have VV := V_tb.keep K2 (ninS (Ne.symm ne_co_tb) nin0)
  show Goes p e below _ (sF T2 m 107 #[rv sy, iv (4 : Int32), rv co, rv tb, iv k, .val (.long fb), .second, iv i] [])
  refine Goes.step ?_ (fun _ k => XS.aloadN X2.here hx rfl (hb hby d7_107) rfl rfl k)
  show Goes p e below _ (sF T2 m 108 #[rv sy, iv (4 : Int32), rv co, rv tb, iv k, .val (.long fb), .second, iv i] [(.ref tb)])
  refine own_out X2 hx hlk hret rfl (Or.inr (Or.inr (Or.inr (Or.inr ⟨rfl, rfl, rfl⟩)))) (hb hby d7_108) ?_ (by decide) (by decide)
  show QBu5 Z co b0 b1 b2 b3 b4 hh n0 _ T2.heap _
  exact ⟨tb, kt, ((0 : Int64) + (((maxV ((4 : Int32) - (1 : Int32)) (0 : Int32)).toInt64) + fb)), rfl, N2, KK, sz_tb, VV, G2, l1, l2⟩
set_option maxRecDepth 65536 in
set_option maxHeartbeats 40000000 in
theorem rmBu5 (l : Launch) (Z : State) (a0 : Array Value) (hw : ∀ d ∈ tables_1, d.before a0 Z = true) (ws : List Jvm.Cond) (sy : Addr) (co : Addr) (cK : ClassId) (one : Option Addr) (pa : Addr) (kp : ClassId) (b0 : Int32) (b1 : Int32) (b2 : Int32) (b3 : Int32) (b4 : Int32) (h0 : Heap) (n0 : Nat) (Z0 : n0 ≤ h0.size) (hSame : Z.sameButNew Z [] 0 0) (hLam : Z.lambdaAt? symN 1 30 sgm = some (cK, one)) (hsy : h0[sy]? = some ({ cls := cK, slots := #[.ref pa], vm := .none } : Cell)) (V_pa : Arv Z h0 pa kp .byte (5 : Int32) [(.int b0), (.int b1), (.int b2), (.int b3), (.int b4)] (.int (0 : Int32))) (F_count : Fld Z h0 co "com/example/borderline/borderline/Comparisons" "count" "J" (.long (0 : Int64))) (E_co : Exa Z h0 co "com/example/borderline/borderline/Comparisons") (g_co : n0 ≤ co) :
    MetFree l (⟨"com/example/borderline/borderline/BorderTable", "build", "(Lcom/example/borderline/borderline/BorderTable$Symbols;ILcom/example/borderline/borderline/Comparisons;)[I"⟩ : MethodName) (head1 (Jvm.Cond.code (⟨"com/example/borderline/borderline/BorderTable", "build", "(Lcom/example/borderline/borderline/BorderTable$Symbols;ILcom/example/borderline/borderline/Comparisons;)[I"⟩ : MethodName) prog_7_method_8_code 8 (some (.array .int)) :: ws) ({ frames := 2, cells := 1, slots := 5, locals := 40 } : Room)) (fun a U => a = #[(.ref sy), (.int (4 : Int32)), (.ref co)] ∧ Z.WarmedH U.vm ∧ U.heap = h0) (fun _ _ _ _ _ => True) (fun _ U o U' => ∃ v L, o = .returned v ∧ QBu5 Z co b0 b1 b2 b3 b4 h0 n0 v U'.heap L ∧ FrameEnd U o U' L ({ frames := 2, cells := 1, slots := 5, locals := 40 } : Room).cells ({ frames := 2, cells := 1, slots := 5, locals := 40 } : Room).slots) := by
  refine MetFree.of_bodySF (plainFor_of_name pn_com_example_borderline_borderline_BorderTable) hisR ?_
  intro p e s m args below meth c s₁ Bd hml0 hP hK
  obtain ⟨rfl, hZH, hh⟩ := hP
  have hZ : Z.Warmed39 s.vm := hZH.wide
  have hx := Bd.exec
  have hby := Bd.bytes
  have hlk : meth.locks = false := BodyLoose.notSynchronized Bd
  have hml : c.maxLocals = 8 := hml0
  have hown : s.vm.findClass "com/example/borderline/borderline/BorderTable" = some m.cls := findClass_of_methodNamed Bd.named
  have hnm := (name_of_methodNamed Bd.named Bd.method).1
  have X0 : Stand p l e ({ frames := 2, cells := 1, slots := 5, locals := 40 } : Room) s m #[(.ref sy), (.int (4 : Int32)), (.ref co)] below meth c s₁ [] 0 0 := Stand.of_body Bd
  have e0 : s₁.heap = h0 := by rw [← hh, Bd.state]; rfl
  have N0 := Fr.nil n0
  have hret := Bd.returns
  show Goes p e below (fun o U' => ∃ v L, o = .returned v ∧ QBu5 Z co b0 b1 b2 b3 b4 h0 n0 v U'.heap L ∧ FrameEnd s o U' L ({ frames := 2, cells := 1, slots := 5, locals := 40 } : Room).cells ({ frames := 2, cells := 1, slots := 5, locals := 40 } : Room).slots) (s₁.setTop (entryFrame m #[(.ref sy), (.int (4 : Int32)), (.ref co)] 8))
  refine Goes.step ?_ (fun _ k => castTop (ef_bu5 m sy (4 : Int32) co) k)
  have hmd := own_made (own_lamAt hZH hSame (by decide) hLam)
  show Goes p e below _ (sF s₁ m 0 #[rv sy, iv (4 : Int32), rv co, .unset, .unset, .unset, .unset, .unset] [])
  refine Goes.step ?_ (fun _ k => XS.iloadN X0.here hx rfl (hb hby d7_0) rfl  k)
  show Goes p e below _ (sF s₁ m 1 #[rv sy, iv (4 : Int32), rv co, .unset, .unset, .unset, .unset, .unset] [(.int (4 : Int32))])
  refine Goes.step ?_ (fun _ k => XS.iconst X0.here hx rfl (hb hby d7_1) k)
  show Goes p e below _ (sF s₁ m 2 #[rv sy, iv (4 : Int32), rv co, .unset, .unset, .unset, .unset, .unset] [(.int (1 : Int32)), (.int (4 : Int32))])
  refine Goes.step ?_ (fun _ k => XS.iadd X0.here hx rfl (hb hby d7_2) rfl k)
  show Goes p e below _ (sF s₁ m 3 #[rv sy, iv (4 : Int32), rv co, .unset, .unset, .unset, .unset, .unset] [(.int ((4 : Int32) + (1 : Int32)))])
  rw [show ((4 : Int32) + (1 : Int32)) = (5 : Int32) from by decide]
  show Goes p e below _ (sF s₁ m 3 #[rv sy, iv (4 : Int32), rv co, .unset, .unset, .unset, .unset, .unset] [(.int (5 : Int32))])
  obtain ⟨T1, h1, k1, X1, e1, E1, A1, st1⟩ := newP X0 hx hZ (hw _ (List.mem_of_getElem? (i := 15) rfl)) e0 (g := (mkF m 3 #[rv sy, iv (4 : Int32), rv co, .unset, .unset, .unset, .unset, .unset] [(.int (5 : Int32))])) rfl (hb hby d7_3) rfl (by decide) (cap := 5) (by decide) (by decide) (by decide) (by decide)
  obtain ⟨ob1, g1⟩ : ∃ z, z = h0.size := ⟨_, rfl⟩
  rw [← g1] at A1 st1
  have g_ob1 : n0 ≤ ob1 := Nat.le_trans Z0 (Nat.le_of_eq g1.symm)
  have sz_ob1 : h0.size ≤ ob1 := Nat.le_trans (Keep.refl h0 [co]).1 (Nat.le_of_eq g1.symm)
  have ne_pa_ob1 : pa ≠ ob1 := Nat.ne_of_lt (Nat.lt_of_lt_of_le V_pa.lt (Nat.le_of_eq g1.symm))
  have ne_co_ob1 : co ≠ ob1 := Nat.ne_of_lt (Nat.lt_of_lt_of_le F_count.lt (Nat.le_of_eq g1.symm))
  have Zs1 : n0 ≤ h1.size := Nat.le_trans Z0 E1.1
  refine Goes.step ?_ st1
  have V_ob1 : Arv Z h1 ob1 k1 .int (5 : Int32) [(.int (0 : Int32)), (.int (0 : Int32)), (.int (0 : Int32)), (.int (0 : Int32)), (.int (0 : Int32))] (.int (0 : Int32)) := (Arv.new A1 (by decide)).pad (pad_rep [] (.int (0 : Int32)) 5)
  have ne_sy_ob1 : sy ≠ ob1 := Nat.ne_of_lt (Nat.lt_of_lt_of_le (Array.getElem?_eq_some_iff.mp hsy).1 (Nat.le_of_eq g1.symm))
  show Goes p e below _ (sF T1 m 5 #[rv sy, iv (4 : Int32), rv co, .unset, .unset, .unset, .unset, .unset] [(.ref ob1)])
  refine Goes.step ?_ (fun _ k => XS.astoreN X1.here hx rfl (hb hby d7_5) rfl rfl (l' := #[rv sy, iv (4 : Int32), rv co, rv ob1, .unset, .unset, .unset, .unset]) rfl k)
  show Goes p e below _ (sF T1 m 6 #[rv sy, iv (4 : Int32), rv co, rv ob1, .unset, .unset, .unset, .unset] [])
  refine Goes.step ?_ (fun _ k => XS.aloadN X1.here hx rfl (hb hby d7_6) rfl rfl k)
  show Goes p e below _ (sF T1 m 7 #[rv sy, iv (4 : Int32), rv co, rv ob1, .unset, .unset, .unset, .unset] [(.ref ob1)])
  refine Goes.step ?_ (fun _ k => XS.iconst X1.here hx rfl (hb hby d7_7) k)
  show Goes p e below _ (sF T1 m 8 #[rv sy, iv (4 : Int32), rv co, rv ob1, .unset, .unset, .unset, .unset] [(.int (0 : Int32)), (.ref ob1)])
  refine Goes.step ?_ (fun _ k => XS.iconst X1.here hx rfl (hb hby d7_8) k)
  show Goes p e below _ (sF T1 m 9 #[rv sy, iv (4 : Int32), rv co, rv ob1, .unset, .unset, .unset, .unset] [(.int (-1 : Int32)), (.int (0 : Int32)), (.ref ob1)])
  obtain ⟨cl2, Ar2, q2, S2, N_2, H2, G2⟩ := id V_ob1
  have hin3 : ¬ ((0 : Int32) < 0 ∨ cl2.slots.size ≤ ((0 : Int32)).toNatClampNeg) := inb_of S2 ⟨by decide, by decide⟩
  obtain ⟨T3, h3, X3, e3, W3, st3⟩ := stI X1 hx hZ e1 Ar2 (j := (0 : Int32)) hin3 (g := (mkF m 9 #[rv sy, iv (4 : Int32), rv co, rv ob1, .unset, .unset, .unset, .unset] [(.int (-1 : Int32)), (.int (0 : Int32)), (.ref ob1)])) rfl rfl (hb hby d7_9)
  have V_3 : Arv Z h3 ob1 k1 .int (5 : Int32) [(.int (-1 : Int32)), (.int (0 : Int32)), (.int (0 : Int32)), (.int (0 : Int32)), (.int (0 : Int32))] (.int (0 : Int32)) := Arv.set Ar2 q2 S2 N_2 H2 G2 rfl W3 0 rfl (Nat.le_of_ble_eq_true rfl)
  have Zs3 : n0 ≤ h3.size := Nat.le_trans Zs1 (Keep.of_wr W3).1
  have N3 := Fr.snoc X3 N0 g_ob1
  refine Goes.step ?_ st3
  show Goes p e below _ (sF T3 m 10 #[rv sy, iv (4 : Int32), rv co, rv ob1, .unset, .unset, .unset, .unset] [])
  refine Goes.step ?_ (fun _ k => XS.iconst X3.here hx rfl (hb hby d7_10) k)
  show Goes p e below _ (sF T3 m 11 #[rv sy, iv (4 : Int32), rv co, rv ob1, .unset, .unset, .unset, .unset] [(.int (0 : Int32))])
  refine Goes.step ?_ (fun _ k => XS.istore X3.here hx rfl (hb hby d7_11) rfl (l' := #[rv sy, iv (4 : Int32), rv co, rv ob1, iv (0 : Int32), .unset, .unset, .unset]) rfl k)
  show Goes p e below _ (sF T3 m 13 #[rv sy, iv (4 : Int32), rv co, rv ob1, iv (0 : Int32), .unset, .unset, .unset] [])
  refine Goes.step ?_ (fun _ k => XS.lconst X3.here hx rfl (hb hby d7_13) k)
  show Goes p e below _ (sF T3 m 14 #[rv sy, iv (4 : Int32), rv co, rv ob1, iv (0 : Int32), .unset, .unset, .unset] [(.long (0 : Int64))])
  refine Goes.step ?_ (fun _ k => XS.lstore X3.here hx rfl (hb hby d7_14) rfl (l' := #[rv sy, iv (4 : Int32), rv co, rv ob1, iv (0 : Int32), .val (.long (0 : Int64)), .second, .unset]) rfl k)
  show Goes p e below _ (sF T3 m 16 #[rv sy, iv (4 : Int32), rv co, rv ob1, iv (0 : Int32), .val (.long (0 : Int64)), .second, .unset] [])
  refine Goes.step ?_ (fun _ k => XS.iconst X3.here hx rfl (hb hby d7_16) k)
  show Goes p e below _ (sF T3 m 17 #[rv sy, iv (4 : Int32), rv co, rv ob1, iv (0 : Int32), .val (.long (0 : Int64)), .second, .unset] [(.int (1 : Int32))])
  refine Goes.step ?_ (fun _ k => XS.istore X3.here hx rfl (hb hby d7_17) rfl (l' := #[rv sy, iv (4 : Int32), rv co, rv ob1, iv (0 : Int32), .val (.long (0 : Int64)), .second, iv (1 : Int32)]) rfl k)
  show Goes p e below _ (sF T3 m 19 #[rv sy, iv (4 : Int32), rv co, rv ob1, iv (0 : Int32), .val (.long (0 : Int64)), .second, iv (1 : Int32)] [])
  refine Goes.step ?_ (fun _ k => XS.iload X3.here hx rfl (hb hby d7_19) rfl  k)
  show Goes p e below _ (sF T3 m 21 #[rv sy, iv (4 : Int32), rv co, rv ob1, iv (0 : Int32), .val (.long (0 : Int64)), .second, iv (1 : Int32)] [(.int (1 : Int32))])
  refine Goes.step ?_ (fun _ k => XS.iloadN X3.here hx rfl (hb hby d7_21) rfl  k)
  show Goes p e below _ (sF T3 m 22 #[rv sy, iv (4 : Int32), rv co, rv ob1, iv (0 : Int32), .val (.long (0 : Int64)), .second, iv (1 : Int32)] [(.int (4 : Int32)), (.int (1 : Int32))])
  refine Goes.step ?_ (fun _ k => XS.icmpNo X3.here hx rfl (hb hby d7_22) rfl (tlt (by decide : (1 : Int32) < (4 : Int32))).2.1 k)
  show Goes p e below _ (sF T3 m 25 #[rv sy, iv (4 : Int32), rv co, rv ob1, iv (0 : Int32), .val (.long (0 : Int64)), .second, iv (1 : Int32)] [])
  refine Goes.step ?_ (fun _ k => XS.iload X3.here hx rfl (hb hby d7_25) rfl  k)
  show Goes p e below _ (sF T3 m 27 #[rv sy, iv (4 : Int32), rv co, rv ob1, iv (0 : Int32), .val (.long (0 : Int64)), .second, iv (1 : Int32)] [(.int (0 : Int32))])
  refine Goes.step ?_ (fun _ k => XS.ifYes X3.here hx rfl (pc0 := 27) (pc' := 58) rfl (hb hby d7_27) rfl ((if0 _ _).trans (flt (by decide : ¬ ((0 : Int32) < (0 : Int32)))).2.2.2) (by decide) (by decide) k)
  show Goes p e below _ (sF T3 m 58 #[rv sy, iv (4 : Int32), rv co, rv ob1, iv (0 : Int32), .val (.long (0 : Int64)), .second, iv (1 : Int32)] [])
  refine Goes.step ?_ (fun _ k => XS.iload X3.here hx rfl (hb hby d7_58) rfl  k)
  show Goes p e below _ (sF T3 m 60 #[rv sy, iv (4 : Int32), rv co, rv ob1, iv (0 : Int32), .val (.long (0 : Int64)), .second, iv (1 : Int32)] [(.int (0 : Int32))])
  refine Goes.step ?_ (fun _ k => XS.ifNo X3.here hx rfl (hb hby d7_60) rfl ((if0 _ _).trans (flt (by decide : ¬ ((0 : Int32) < (0 : Int32)))).2.2.1) k)
  show Goes p e below _ (sF T3 m 63 #[rv sy, iv (4 : Int32), rv co, rv ob1, iv (0 : Int32), .val (.long (0 : Int64)), .second, iv (1 : Int32)] [])
  refine Goes.step ?_ (fun _ k => XS.aloadN X3.here hx rfl (hb hby d7_63) rfl rfl k)
  show Goes p e below _ (sF T3 m 64 #[rv sy, iv (4 : Int32), rv co, rv ob1, iv (0 : Int32), .val (.long (0 : Int64)), .second, iv (1 : Int32)] [(.ref sy)])
  refine Goes.step ?_ (fun _ k => XS.iconst X3.here hx rfl (hb hby d7_64) k)
  show Goes p e below _ (sF T3 m 65 #[rv sy, iv (4 : Int32), rv co, rv ob1, iv (0 : Int32), .val (.long (0 : Int64)), .second, iv (1 : Int32)] [(.int (0 : Int32)), (.ref sy)])
  refine Goes.step ?_ (fun _ k => XS.iload X3.here hx rfl (hb hby d7_65) rfl  k)
  show Goes p e below _ (sF T3 m 67 #[rv sy, iv (4 : Int32), rv co, rv ob1, iv (0 : Int32), .val (.long (0 : Int64)), .second, iv (1 : Int32)] [(.int (1 : Int32)), (.int (0 : Int32)), (.ref sy)])
  by_cases hq01_4 : b0 = b1
  · have hsy5 : h3[sy]? = some ({ cls := cK, slots := #[.ref pa], vm := .none } : Cell) := ((Keep.of_wr W3).2.1 _ _ (E1.2 _ _ hsy) (ninS ne_sy_ob1 nin0))
    have V_pa_6 := ((V_pa.ext E1).other W3 ne_pa_ob1)
    obtain ⟨T5, L5, X5, e5, N5, st5⟩ := own_same X3 hx hZ hw hown hmd e3 N3 Zs3 hsy5 V_pa_6 (i := (0 : Int32)) (j := (1 : Int32)) (r := (1 : Int32)) ⟨by decide, by decide⟩ ⟨by decide, by decide⟩ rfl rfl (by simp [hq01_4]) rfl (g := (mkF m 67 #[rv sy, iv (4 : Int32), rv co, rv ob1, iv (0 : Int32), .val (.long (0 : Int64)), .second, iv (1 : Int32)] [(.int (1 : Int32)), (.int (0 : Int32)), (.ref sy)])) rfl (by rw [hml]; rfl) rfl rfl (hb hby d7_67) (by decide) (by decide) (by decide) (by decide)
    refine Goes.step ?_ st5
    show Goes p e below _ (sF T5 m 72 #[rv sy, iv (4 : Int32), rv co, rv ob1, iv (0 : Int32), .val (.long (0 : Int64)), .second, iv (1 : Int32)] [(.int (1 : Int32))])
    refine Goes.step ?_ (fun _ k => XS.ifNo X5.here hx rfl (hb hby d7_72) rfl ((if0 _ _).trans (feq (by decide : ¬ ((1 : Int32) = (0 : Int32)))).1) k)
    show Goes p e below _ (sF T5 m 75 #[rv sy, iv (4 : Int32), rv co, rv ob1, iv (0 : Int32), .val (.long (0 : Int64)), .second, iv (1 : Int32)] [])
    refine Goes.step ?_ (fun _ k => XS.iinc X5.here hx rfl (hb hby d7_75) rfl (l' := #[rv sy, iv (4 : Int32), rv co, rv ob1, iv ((0 : Int32) + (1 : Int32)), .val (.long (0 : Int64)), .second, iv (1 : Int32)]) rfl k)
    show Goes p e below _ (sF T5 m 78 #[rv sy, iv (4 : Int32), rv co, rv ob1, iv ((0 : Int32) + (1 : Int32)), .val (.long (0 : Int64)), .second, iv (1 : Int32)] [])
    rw [show ((0 : Int32) + (1 : Int32)) = (1 : Int32) from by decide]
    show Goes p e below _ (sF T5 m 78 #[rv sy, iv (4 : Int32), rv co, rv ob1, iv (1 : Int32), .val (.long (0 : Int64)), .second, iv (1 : Int32)] [])
    refine Goes.step ?_ (fun _ k => XS.aloadN X5.here hx rfl (hb hby d7_78) rfl rfl k)
    show Goes p e below _ (sF T5 m 79 #[rv sy, iv (4 : Int32), rv co, rv ob1, iv (1 : Int32), .val (.long (0 : Int64)), .second, iv (1 : Int32)] [(.ref ob1)])
    refine Goes.step ?_ (fun _ k => XS.iload X5.here hx rfl (hb hby d7_79) rfl  k)
    show Goes p e below _ (sF T5 m 81 #[rv sy, iv (4 : Int32), rv co, rv ob1, iv (1 : Int32), .val (.long (0 : Int64)), .second, iv (1 : Int32)] [(.int (1 : Int32)), (.ref ob1)])
    refine Goes.step ?_ (fun _ k => XS.iconst X5.here hx rfl (hb hby d7_81) k)
    show Goes p e below _ (sF T5 m 82 #[rv sy, iv (4 : Int32), rv co, rv ob1, iv (1 : Int32), .val (.long (0 : Int64)), .second, iv (1 : Int32)] [(.int (1 : Int32)), (.int (1 : Int32)), (.ref ob1)])
    refine Goes.step ?_ (fun _ k => XS.iadd X5.here hx rfl (hb hby d7_82) rfl k)
    show Goes p e below _ (sF T5 m 83 #[rv sy, iv (4 : Int32), rv co, rv ob1, iv (1 : Int32), .val (.long (0 : Int64)), .second, iv (1 : Int32)] [(.int ((1 : Int32) + (1 : Int32))), (.ref ob1)])
    rw [show ((1 : Int32) + (1 : Int32)) = (2 : Int32) from by decide]
    show Goes p e below _ (sF T5 m 83 #[rv sy, iv (4 : Int32), rv co, rv ob1, iv (1 : Int32), .val (.long (0 : Int64)), .second, iv (1 : Int32)] [(.int (2 : Int32)), (.ref ob1)])
    refine Goes.step ?_ (fun _ k => XS.iload X5.here hx rfl (hb hby d7_83) rfl  k)
    show Goes p e below _ (sF T5 m 85 #[rv sy, iv (4 : Int32), rv co, rv ob1, iv (1 : Int32), .val (.long (0 : Int64)), .second, iv (1 : Int32)] [(.int (1 : Int32)), (.int (2 : Int32)), (.ref ob1)])
    obtain ⟨cl7, Ar7, q7, S7, N_7, H7, G7⟩ := id V_3
    have hin8 : ¬ ((2 : Int32) < 0 ∨ cl7.slots.size ≤ ((2 : Int32)).toNatClampNeg) := inb_of S7 ⟨by decide, by decide⟩
    obtain ⟨T8, h8, X8, e8, W8, st8⟩ := stI X5 hx hZ e5 Ar7 (j := (2 : Int32)) hin8 (g := (mkF m 85 #[rv sy, iv (4 : Int32), rv co, rv ob1, iv (1 : Int32), .val (.long (0 : Int64)), .second, iv (1 : Int32)] [(.int (1 : Int32)), (.int (2 : Int32)), (.ref ob1)])) rfl rfl (hb hby d7_85)
    have V_8 : Arv Z h8 ob1 k1 .int (5 : Int32) [(.int (-1 : Int32)), (.int (0 : Int32)), (.int (1 : Int32)), (.int (0 : Int32)), (.int (0 : Int32))] (.int (0 : Int32)) := Arv.set Ar7 q7 S7 N_7 H7 G7 rfl W8 2 rfl (Nat.le_of_ble_eq_true rfl)
    have Zs8 : n0 ≤ h8.size := Nat.le_trans Zs3 (Keep.of_wr W8).1
    have N8 := Fr.snoc X8 N5 g_ob1
    refine Goes.step ?_ st8
    show Goes p e below _ (sF T8 m 86 #[rv sy, iv (4 : Int32), rv co, rv ob1, iv (1 : Int32), .val (.long (0 : Int64)), .second, iv (1 : Int32)] [])
    refine Goes.step ?_ (fun _ k => XS.iinc X8.here hx rfl (hb hby d7_86) rfl (l' := #[rv sy, iv (4 : Int32), rv co, rv ob1, iv (1 : Int32), .val (.long (0 : Int64)), .second, iv ((1 : Int32) + (1 : Int32))]) rfl k)
    show Goes p e below _ (sF T8 m 89 #[rv sy, iv (4 : Int32), rv co, rv ob1, iv (1 : Int32), .val (.long (0 : Int64)), .second, iv ((1 : Int32) + (1 : Int32))] [])
    rw [show ((1 : Int32) + (1 : Int32)) = (2 : Int32) from by decide]
    show Goes p e below _ (sF T8 m 89 #[rv sy, iv (4 : Int32), rv co, rv ob1, iv (1 : Int32), .val (.long (0 : Int64)), .second, iv (2 : Int32)] [])
    refine Goes.step ?_ (fun _ k => XS.goto X8.here hx rfl (pc0 := 89) (pc' := 19) rfl (hb hby d7_89) (by decide) (by decide) k)
    show Goes p e below _ (sF T8 m 19 #[rv sy, iv (4 : Int32), rv co, rv ob1, iv (1 : Int32), .val (.long (0 : Int64)), .second, iv (2 : Int32)] [])
    refine Goes.step ?_ (fun _ k => XS.iload X8.here hx rfl (hb hby d7_19) rfl  k)
    show Goes p e below _ (sF T8 m 21 #[rv sy, iv (4 : Int32), rv co, rv ob1, iv (1 : Int32), .val (.long (0 : Int64)), .second, iv (2 : Int32)] [(.int (2 : Int32))])
    refine Goes.step ?_ (fun _ k => XS.iloadN X8.here hx rfl (hb hby d7_21) rfl  k)
    show Goes p e below _ (sF T8 m 22 #[rv sy, iv (4 : Int32), rv co, rv ob1, iv (1 : Int32), .val (.long (0 : Int64)), .second, iv (2 : Int32)] [(.int (4 : Int32)), (.int (2 : Int32))])
    refine Goes.step ?_ (fun _ k => XS.icmpNo X8.here hx rfl (hb hby d7_22) rfl (tlt (by decide : (2 : Int32) < (4 : Int32))).2.1 k)
    show Goes p e below _ (sF T8 m 25 #[rv sy, iv (4 : Int32), rv co, rv ob1, iv (1 : Int32), .val (.long (0 : Int64)), .second, iv (2 : Int32)] [])
    refine Goes.step ?_ (fun _ k => XS.iload X8.here hx rfl (hb hby d7_25) rfl  k)
    show Goes p e below _ (sF T8 m 27 #[rv sy, iv (4 : Int32), rv co, rv ob1, iv (1 : Int32), .val (.long (0 : Int64)), .second, iv (2 : Int32)] [(.int (1 : Int32))])
    refine Goes.step ?_ (fun _ k => XS.ifNo X8.here hx rfl (hb hby d7_27) rfl ((if0 _ _).trans (tlt (by decide : (0 : Int32) < (1 : Int32))).2.2.2) k)
    show Goes p e below _ (sF T8 m 30 #[rv sy, iv (4 : Int32), rv co, rv ob1, iv (1 : Int32), .val (.long (0 : Int64)), .second, iv (2 : Int32)] [])
    refine Goes.step ?_ (fun _ k => XS.aloadN X8.here hx rfl (hb hby d7_30) rfl rfl k)
    show Goes p e below _ (sF T8 m 31 #[rv sy, iv (4 : Int32), rv co, rv ob1, iv (1 : Int32), .val (.long (0 : Int64)), .second, iv (2 : Int32)] [(.ref sy)])
    refine Goes.step ?_ (fun _ k => XS.iload X8.here hx rfl (hb hby d7_31) rfl  k)
    show Goes p e below _ (sF T8 m 33 #[rv sy, iv (4 : Int32), rv co, rv ob1, iv (1 : Int32), .val (.long (0 : Int64)), .second, iv (2 : Int32)] [(.int (1 : Int32)), (.ref sy)])
    refine Goes.step ?_ (fun _ k => XS.iload X8.here hx rfl (hb hby d7_33) rfl  k)
    show Goes p e below _ (sF T8 m 35 #[rv sy, iv (4 : Int32), rv co, rv ob1, iv (1 : Int32), .val (.long (0 : Int64)), .second, iv (2 : Int32)] [(.int (2 : Int32)), (.int (1 : Int32)), (.ref sy)])
    by_cases hq12_9 : b1 = b2
    · have hsy10 : h8[sy]? = some ({ cls := cK, slots := #[.ref pa], vm := .none } : Cell) := ((Keep.of_wr W8).2.1 _ _ hsy5 (ninS ne_sy_ob1 nin0))
      have V_pa_11 := (V_pa_6.other W8 ne_pa_ob1)
      obtain ⟨T10, L10, X10, e10, N10, st10⟩ := own_same X8 hx hZ hw hown hmd e8 N8 Zs8 hsy10 V_pa_11 (i := (1 : Int32)) (j := (2 : Int32)) (r := (1 : Int32)) ⟨by decide, by decide⟩ ⟨by decide, by decide⟩ rfl rfl (by simp [hq12_9]) rfl (g := (mkF m 35 #[rv sy, iv (4 : Int32), rv co, rv ob1, iv (1 : Int32), .val (.long (0 : Int64)), .second, iv (2 : Int32)] [(.int (2 : Int32)), (.int (1 : Int32)), (.ref sy)])) rfl (by rw [hml]; rfl) rfl rfl (hb hby d7_35) (by decide) (by decide) (by decide) (by decide)
      refine Goes.step ?_ st10
      show Goes p e below _ (sF T10 m 40 #[rv sy, iv (4 : Int32), rv co, rv ob1, iv (1 : Int32), .val (.long (0 : Int64)), .second, iv (2 : Int32)] [(.int (1 : Int32))])
      refine Goes.step ?_ (fun _ k => XS.ifYes X10.here hx rfl (pc0 := 40) (pc' := 58) rfl (hb hby d7_40) rfl ((if0 _ _).trans (feq (by decide : ¬ ((1 : Int32) = (0 : Int32)))).2) (by decide) (by decide) k)
      show Goes p e below _ (sF T10 m 58 #[rv sy, iv (4 : Int32), rv co, rv ob1, iv (1 : Int32), .val (.long (0 : Int64)), .second, iv (2 : Int32)] [])
      refine Goes.step ?_ (fun _ k => XS.iload X10.here hx rfl (hb hby d7_58) rfl  k)
      show Goes p e below _ (sF T10 m 60 #[rv sy, iv (4 : Int32), rv co, rv ob1, iv (1 : Int32), .val (.long (0 : Int64)), .second, iv (2 : Int32)] [(.int (1 : Int32))])
      refine Goes.step ?_ (fun _ k => XS.ifYes X10.here hx rfl (pc0 := 60) (pc' := 75) rfl (hb hby d7_60) rfl ((if0 _ _).trans (tlt (by decide : (0 : Int32) < (1 : Int32))).2.2.1) (by decide) (by decide) k)
      show Goes p e below _ (sF T10 m 75 #[rv sy, iv (4 : Int32), rv co, rv ob1, iv (1 : Int32), .val (.long (0 : Int64)), .second, iv (2 : Int32)] [])
      refine Goes.step ?_ (fun _ k => XS.iinc X10.here hx rfl (hb hby d7_75) rfl (l' := #[rv sy, iv (4 : Int32), rv co, rv ob1, iv ((1 : Int32) + (1 : Int32)), .val (.long (0 : Int64)), .second, iv (2 : Int32)]) rfl k)
      show Goes p e below _ (sF T10 m 78 #[rv sy, iv (4 : Int32), rv co, rv ob1, iv ((1 : Int32) + (1 : Int32)), .val (.long (0 : Int64)), .second, iv (2 : Int32)] [])
      rw [show ((1 : Int32) + (1 : Int32)) = (2 : Int32) from by decide]
      show Goes p e below _ (sF T10 m 78 #[rv sy, iv (4 : Int32), rv co, rv ob1, iv (2 : Int32), .val (.long (0 : Int64)), .second, iv (2 : Int32)] [])
      refine Goes.step ?_ (fun _ k => XS.aloadN X10.here hx rfl (hb hby d7_78) rfl rfl k)
      show Goes p e below _ (sF T10 m 79 #[rv sy, iv (4 : Int32), rv co, rv ob1, iv (2 : Int32), .val (.long (0 : Int64)), .second, iv (2 : Int32)] [(.ref ob1)])
      refine Goes.step ?_ (fun _ k => XS.iload X10.here hx rfl (hb hby d7_79) rfl  k)
      show Goes p e below _ (sF T10 m 81 #[rv sy, iv (4 : Int32), rv co, rv ob1, iv (2 : Int32), .val (.long (0 : Int64)), .second, iv (2 : Int32)] [(.int (2 : Int32)), (.ref ob1)])
      refine Goes.step ?_ (fun _ k => XS.iconst X10.here hx rfl (hb hby d7_81) k)
      show Goes p e below _ (sF T10 m 82 #[rv sy, iv (4 : Int32), rv co, rv ob1, iv (2 : Int32), .val (.long (0 : Int64)), .second, iv (2 : Int32)] [(.int (1 : Int32)), (.int (2 : Int32)), (.ref ob1)])
      refine Goes.step ?_ (fun _ k => XS.iadd X10.here hx rfl (hb hby d7_82) rfl k)
      show Goes p e below _ (sF T10 m 83 #[rv sy, iv (4 : Int32), rv co, rv ob1, iv (2 : Int32), .val (.long (0 : Int64)), .second, iv (2 : Int32)] [(.int ((2 : Int32) + (1 : Int32))), (.ref ob1)])
      rw [show ((2 : Int32) + (1 : Int32)) = (3 : Int32) from by decide]
      show Goes p e below _ (sF T10 m 83 #[rv sy, iv (4 : Int32), rv co, rv ob1, iv (2 : Int32), .val (.long (0 : Int64)), .second, iv (2 : Int32)] [(.int (3 : Int32)), (.ref ob1)])
      refine Goes.step ?_ (fun _ k => XS.iload X10.here hx rfl (hb hby d7_83) rfl  k)
      show Goes p e below _ (sF T10 m 85 #[rv sy, iv (4 : Int32), rv co, rv ob1, iv (2 : Int32), .val (.long (0 : Int64)), .second, iv (2 : Int32)] [(.int (2 : Int32)), (.int (3 : Int32)), (.ref ob1)])
      obtain ⟨cl12, Ar12, q12, S12, N_12, H12, G12⟩ := id V_8
      have hin13 : ¬ ((3 : Int32) < 0 ∨ cl12.slots.size ≤ ((3 : Int32)).toNatClampNeg) := inb_of S12 ⟨by decide, by decide⟩
      obtain ⟨T13, h13, X13, e13, W13, st13⟩ := stI X10 hx hZ e10 Ar12 (j := (3 : Int32)) hin13 (g := (mkF m 85 #[rv sy, iv (4 : Int32), rv co, rv ob1, iv (2 : Int32), .val (.long (0 : Int64)), .second, iv (2 : Int32)] [(.int (2 : Int32)), (.int (3 : Int32)), (.ref ob1)])) rfl rfl (hb hby d7_85)
      have V_13 : Arv Z h13 ob1 k1 .int (5 : Int32) [(.int (-1 : Int32)), (.int (0 : Int32)), (.int (1 : Int32)), (.int (2 : Int32)), (.int (0 : Int32))] (.int (0 : Int32)) := Arv.set Ar12 q12 S12 N_12 H12 G12 rfl W13 3 rfl (Nat.le_of_ble_eq_true rfl)
      have Zs13 : n0 ≤ h13.size := Nat.le_trans Zs8 (Keep.of_wr W13).1
      have N13 := Fr.snoc X13 N10 g_ob1
      refine Goes.step ?_ st13
      show Goes p e below _ (sF T13 m 86 #[rv sy, iv (4 : Int32), rv co, rv ob1, iv (2 : Int32), .val (.long (0 : Int64)), .second, iv (2 : Int32)] [])
      refine Goes.step ?_ (fun _ k => XS.iinc X13.here hx rfl (hb hby d7_86) rfl (l' := #[rv sy, iv (4 : Int32), rv co, rv ob1, iv (2 : Int32), .val (.long (0 : Int64)), .second, iv ((2 : Int32) + (1 : Int32))]) rfl k)
      show Goes p e below _ (sF T13 m 89 #[rv sy, iv (4 : Int32), rv co, rv ob1, iv (2 : Int32), .val (.long (0 : Int64)), .second, iv ((2 : Int32) + (1 : Int32))] [])
      rw [show ((2 : Int32) + (1 : Int32)) = (3 : Int32) from by decide]
      show Goes p e below _ (sF T13 m 89 #[rv sy, iv (4 : Int32), rv co, rv ob1, iv (2 : Int32), .val (.long (0 : Int64)), .second, iv (3 : Int32)] [])
      refine Goes.step ?_ (fun _ k => XS.goto X13.here hx rfl (pc0 := 89) (pc' := 19) rfl (hb hby d7_89) (by decide) (by decide) k)
      show Goes p e below _ (sF T13 m 19 #[rv sy, iv (4 : Int32), rv co, rv ob1, iv (2 : Int32), .val (.long (0 : Int64)), .second, iv (3 : Int32)] [])
      refine Goes.step ?_ (fun _ k => XS.iload X13.here hx rfl (hb hby d7_19) rfl  k)
      show Goes p e below _ (sF T13 m 21 #[rv sy, iv (4 : Int32), rv co, rv ob1, iv (2 : Int32), .val (.long (0 : Int64)), .second, iv (3 : Int32)] [(.int (3 : Int32))])
      refine Goes.step ?_ (fun _ k => XS.iloadN X13.here hx rfl (hb hby d7_21) rfl  k)
      show Goes p e below _ (sF T13 m 22 #[rv sy, iv (4 : Int32), rv co, rv ob1, iv (2 : Int32), .val (.long (0 : Int64)), .second, iv (3 : Int32)] [(.int (4 : Int32)), (.int (3 : Int32))])
      refine Goes.step ?_ (fun _ k => XS.icmpNo X13.here hx rfl (hb hby d7_22) rfl (tlt (by decide : (3 : Int32) < (4 : Int32))).2.1 k)
      show Goes p e below _ (sF T13 m 25 #[rv sy, iv (4 : Int32), rv co, rv ob1, iv (2 : Int32), .val (.long (0 : Int64)), .second, iv (3 : Int32)] [])
      refine Goes.step ?_ (fun _ k => XS.iload X13.here hx rfl (hb hby d7_25) rfl  k)
      show Goes p e below _ (sF T13 m 27 #[rv sy, iv (4 : Int32), rv co, rv ob1, iv (2 : Int32), .val (.long (0 : Int64)), .second, iv (3 : Int32)] [(.int (2 : Int32))])
      refine Goes.step ?_ (fun _ k => XS.ifNo X13.here hx rfl (hb hby d7_27) rfl ((if0 _ _).trans (tlt (by decide : (0 : Int32) < (2 : Int32))).2.2.2) k)
      show Goes p e below _ (sF T13 m 30 #[rv sy, iv (4 : Int32), rv co, rv ob1, iv (2 : Int32), .val (.long (0 : Int64)), .second, iv (3 : Int32)] [])
      refine Goes.step ?_ (fun _ k => XS.aloadN X13.here hx rfl (hb hby d7_30) rfl rfl k)
      show Goes p e below _ (sF T13 m 31 #[rv sy, iv (4 : Int32), rv co, rv ob1, iv (2 : Int32), .val (.long (0 : Int64)), .second, iv (3 : Int32)] [(.ref sy)])
      refine Goes.step ?_ (fun _ k => XS.iload X13.here hx rfl (hb hby d7_31) rfl  k)
      show Goes p e below _ (sF T13 m 33 #[rv sy, iv (4 : Int32), rv co, rv ob1, iv (2 : Int32), .val (.long (0 : Int64)), .second, iv (3 : Int32)] [(.int (2 : Int32)), (.ref sy)])
      refine Goes.step ?_ (fun _ k => XS.iload X13.here hx rfl (hb hby d7_33) rfl  k)
      show Goes p e below _ (sF T13 m 35 #[rv sy, iv (4 : Int32), rv co, rv ob1, iv (2 : Int32), .val (.long (0 : Int64)), .second, iv (3 : Int32)] [(.int (3 : Int32)), (.int (2 : Int32)), (.ref sy)])
      by_cases hq23_14 : b2 = b3
      · have hsy15 : h13[sy]? = some ({ cls := cK, slots := #[.ref pa], vm := .none } : Cell) := ((Keep.of_wr W13).2.1 _ _ hsy10 (ninS ne_sy_ob1 nin0))
        have V_pa_16 := (V_pa_11.other W13 ne_pa_ob1)
        obtain ⟨T15, L15, X15, e15, N15, st15⟩ := own_same X13 hx hZ hw hown hmd e13 N13 Zs13 hsy15 V_pa_16 (i := (2 : Int32)) (j := (3 : Int32)) (r := (1 : Int32)) ⟨by decide, by decide⟩ ⟨by decide, by decide⟩ rfl rfl (by simp [hq23_14]) rfl (g := (mkF m 35 #[rv sy, iv (4 : Int32), rv co, rv ob1, iv (2 : Int32), .val (.long (0 : Int64)), .second, iv (3 : Int32)] [(.int (3 : Int32)), (.int (2 : Int32)), (.ref sy)])) rfl (by rw [hml]; rfl) rfl rfl (hb hby d7_35) (by decide) (by decide) (by decide) (by decide)
        refine Goes.step ?_ st15
        show Goes p e below _ (sF T15 m 40 #[rv sy, iv (4 : Int32), rv co, rv ob1, iv (2 : Int32), .val (.long (0 : Int64)), .second, iv (3 : Int32)] [(.int (1 : Int32))])
        refine Goes.step ?_ (fun _ k => XS.ifYes X15.here hx rfl (pc0 := 40) (pc' := 58) rfl (hb hby d7_40) rfl ((if0 _ _).trans (feq (by decide : ¬ ((1 : Int32) = (0 : Int32)))).2) (by decide) (by decide) k)
        show Goes p e below _ (sF T15 m 58 #[rv sy, iv (4 : Int32), rv co, rv ob1, iv (2 : Int32), .val (.long (0 : Int64)), .second, iv (3 : Int32)] [])
        refine Goes.step ?_ (fun _ k => XS.iload X15.here hx rfl (hb hby d7_58) rfl  k)
        show Goes p e below _ (sF T15 m 60 #[rv sy, iv (4 : Int32), rv co, rv ob1, iv (2 : Int32), .val (.long (0 : Int64)), .second, iv (3 : Int32)] [(.int (2 : Int32))])
        refine Goes.step ?_ (fun _ k => XS.ifYes X15.here hx rfl (pc0 := 60) (pc' := 75) rfl (hb hby d7_60) rfl ((if0 _ _).trans (tlt (by decide : (0 : Int32) < (2 : Int32))).2.2.1) (by decide) (by decide) k)
        show Goes p e below _ (sF T15 m 75 #[rv sy, iv (4 : Int32), rv co, rv ob1, iv (2 : Int32), .val (.long (0 : Int64)), .second, iv (3 : Int32)] [])
        refine Goes.step ?_ (fun _ k => XS.iinc X15.here hx rfl (hb hby d7_75) rfl (l' := #[rv sy, iv (4 : Int32), rv co, rv ob1, iv ((2 : Int32) + (1 : Int32)), .val (.long (0 : Int64)), .second, iv (3 : Int32)]) rfl k)
        show Goes p e below _ (sF T15 m 78 #[rv sy, iv (4 : Int32), rv co, rv ob1, iv ((2 : Int32) + (1 : Int32)), .val (.long (0 : Int64)), .second, iv (3 : Int32)] [])
        rw [show ((2 : Int32) + (1 : Int32)) = (3 : Int32) from by decide]
        show Goes p e below _ (sF T15 m 78 #[rv sy, iv (4 : Int32), rv co, rv ob1, iv (3 : Int32), .val (.long (0 : Int64)), .second, iv (3 : Int32)] [])
        refine Goes.step ?_ (fun _ k => XS.aloadN X15.here hx rfl (hb hby d7_78) rfl rfl k)
        show Goes p e below _ (sF T15 m 79 #[rv sy, iv (4 : Int32), rv co, rv ob1, iv (3 : Int32), .val (.long (0 : Int64)), .second, iv (3 : Int32)] [(.ref ob1)])
        refine Goes.step ?_ (fun _ k => XS.iload X15.here hx rfl (hb hby d7_79) rfl  k)
        show Goes p e below _ (sF T15 m 81 #[rv sy, iv (4 : Int32), rv co, rv ob1, iv (3 : Int32), .val (.long (0 : Int64)), .second, iv (3 : Int32)] [(.int (3 : Int32)), (.ref ob1)])
        refine Goes.step ?_ (fun _ k => XS.iconst X15.here hx rfl (hb hby d7_81) k)
        show Goes p e below _ (sF T15 m 82 #[rv sy, iv (4 : Int32), rv co, rv ob1, iv (3 : Int32), .val (.long (0 : Int64)), .second, iv (3 : Int32)] [(.int (1 : Int32)), (.int (3 : Int32)), (.ref ob1)])
        refine Goes.step ?_ (fun _ k => XS.iadd X15.here hx rfl (hb hby d7_82) rfl k)
        show Goes p e below _ (sF T15 m 83 #[rv sy, iv (4 : Int32), rv co, rv ob1, iv (3 : Int32), .val (.long (0 : Int64)), .second, iv (3 : Int32)] [(.int ((3 : Int32) + (1 : Int32))), (.ref ob1)])
        rw [show ((3 : Int32) + (1 : Int32)) = (4 : Int32) from by decide]
        show Goes p e below _ (sF T15 m 83 #[rv sy, iv (4 : Int32), rv co, rv ob1, iv (3 : Int32), .val (.long (0 : Int64)), .second, iv (3 : Int32)] [(.int (4 : Int32)), (.ref ob1)])
        refine Goes.step ?_ (fun _ k => XS.iload X15.here hx rfl (hb hby d7_83) rfl  k)
        show Goes p e below _ (sF T15 m 85 #[rv sy, iv (4 : Int32), rv co, rv ob1, iv (3 : Int32), .val (.long (0 : Int64)), .second, iv (3 : Int32)] [(.int (3 : Int32)), (.int (4 : Int32)), (.ref ob1)])
        obtain ⟨cl17, Ar17, q17, S17, N_17, H17, G17⟩ := id V_13
        have hin18 : ¬ ((4 : Int32) < 0 ∨ cl17.slots.size ≤ ((4 : Int32)).toNatClampNeg) := inb_of S17 ⟨by decide, by decide⟩
        obtain ⟨T18, h18, X18, e18, W18, st18⟩ := stI X15 hx hZ e15 Ar17 (j := (4 : Int32)) hin18 (g := (mkF m 85 #[rv sy, iv (4 : Int32), rv co, rv ob1, iv (3 : Int32), .val (.long (0 : Int64)), .second, iv (3 : Int32)] [(.int (3 : Int32)), (.int (4 : Int32)), (.ref ob1)])) rfl rfl (hb hby d7_85)
        have V_18 : Arv Z h18 ob1 k1 .int (5 : Int32) [(.int (-1 : Int32)), (.int (0 : Int32)), (.int (1 : Int32)), (.int (2 : Int32)), (.int (3 : Int32))] (.int (0 : Int32)) := Arv.set Ar17 q17 S17 N_17 H17 G17 rfl W18 4 rfl (Nat.le_of_ble_eq_true rfl)
        have Zs18 : n0 ≤ h18.size := Nat.le_trans Zs13 (Keep.of_wr W18).1
        have N18 := Fr.snoc X18 N15 g_ob1
        refine Goes.step ?_ st18
        show Goes p e below _ (sF T18 m 86 #[rv sy, iv (4 : Int32), rv co, rv ob1, iv (3 : Int32), .val (.long (0 : Int64)), .second, iv (3 : Int32)] [])
        refine Goes.step ?_ (fun _ k => XS.iinc X18.here hx rfl (hb hby d7_86) rfl (l' := #[rv sy, iv (4 : Int32), rv co, rv ob1, iv (3 : Int32), .val (.long (0 : Int64)), .second, iv ((3 : Int32) + (1 : Int32))]) rfl k)
        show Goes p e below _ (sF T18 m 89 #[rv sy, iv (4 : Int32), rv co, rv ob1, iv (3 : Int32), .val (.long (0 : Int64)), .second, iv ((3 : Int32) + (1 : Int32))] [])
        rw [show ((3 : Int32) + (1 : Int32)) = (4 : Int32) from by decide]
        show Goes p e below _ (sF T18 m 89 #[rv sy, iv (4 : Int32), rv co, rv ob1, iv (3 : Int32), .val (.long (0 : Int64)), .second, iv (4 : Int32)] [])
        refine Goes.step ?_ (fun _ k => XS.goto X18.here hx rfl (pc0 := 89) (pc' := 19) rfl (hb hby d7_89) (by decide) (by decide) k)
        show Goes p e below _ (sF T18 m 19 #[rv sy, iv (4 : Int32), rv co, rv ob1, iv (3 : Int32), .val (.long (0 : Int64)), .second, iv (4 : Int32)] [])
        refine Goes.step ?_ (fun _ k => XS.iload X18.here hx rfl (hb hby d7_19) rfl  k)
        show Goes p e below _ (sF T18 m 21 #[rv sy, iv (4 : Int32), rv co, rv ob1, iv (3 : Int32), .val (.long (0 : Int64)), .second, iv (4 : Int32)] [(.int (4 : Int32))])
        refine Goes.step ?_ (fun _ k => XS.iloadN X18.here hx rfl (hb hby d7_21) rfl  k)
        show Goes p e below _ (sF T18 m 22 #[rv sy, iv (4 : Int32), rv co, rv ob1, iv (3 : Int32), .val (.long (0 : Int64)), .second, iv (4 : Int32)] [(.int (4 : Int32)), (.int (4 : Int32))])
        refine Goes.step ?_ (fun _ k => XS.icmpYes X18.here hx rfl (pc0 := 22) (pc' := 92) rfl (hb hby d7_22) rfl (flt (by decide : ¬ ((4 : Int32) < (4 : Int32)))).2.1 (by decide) (by decide) k)
        show Goes p e below _ (sF T18 m 92 #[rv sy, iv (4 : Int32), rv co, rv ob1, iv (3 : Int32), .val (.long (0 : Int64)), .second, iv (4 : Int32)] [])
        have t2 : (lg2 b0 b1) = (1 : Int32) := by simp only [lg2]; (first | (simp [hq01_4, hq12_9, hq23_14]; done) | (simp_all; done) | grind)
        have t3 : (lg3 b0 b1 b2) = (2 : Int32) := by simp only [lg3]; (first | (simp [hq01_4, hq12_9, hq23_14]; done) | (simp_all; done) | grind)
        have t4 : (lg4 b0 b1 b2 b3) = (3 : Int32) := by simp only [lg4]; (first | (simp [hq01_4, hq12_9, hq23_14]; done) | (simp_all; done) | grind)
        rw [show ([(.int (-1 : Int32)), (.int (0 : Int32)), (.int (1 : Int32)), (.int (2 : Int32)), (.int (3 : Int32))] : List Value) = [(.int (-1 : Int32)), (.int (0 : Int32)), (.int (lg2 b0 b1)), (.int (lg3 b0 b1 b2)), (.int (lg4 b0 b1 b2 b3))] from by rw [t2, t3, t4]] at V_18
        have K_19 := ((((((Keep.refl h0 [co]).ext E1).wr W3 (Or.inr sz_ob1)).wr W8 (Or.inr sz_ob1)).wr W13 (Or.inr sz_ob1)).wr W18 (Or.inr sz_ob1))
        have F_co_count_20 := (((((F_count.ext E1).other W3 (Or.inl ne_co_ob1)).other W8 (Or.inl ne_co_ob1)).other W13 (Or.inl ne_co_ob1)).other W18 (Or.inl ne_co_ob1))
        have E_co_21 := (((((E_co.ext E1).wr W3).wr W8).wr W13).wr W18)
        exact bu92_5 h0 sy co ob1 k1 b0 b1 b2 b3 b4 (3 : Int32) (0 : Int64) (4 : Int32) X18 hx hZ hw hby hlk hret hml hown e18 N18 Zs18 K_19 V_18 F_co_count_20 E_co_21 ne_co_ob1 g_co sz_ob1 (by decide) (by decide)
      · have hsy22 : h13[sy]? = some ({ cls := cK, slots := #[.ref pa], vm := .none } : Cell) := ((Keep.of_wr W13).2.1 _ _ hsy10 (ninS ne_sy_ob1 nin0))
        have V_pa_23 := (V_pa_11.other W13 ne_pa_ob1)
        obtain ⟨T22, L22, X22, e22, N22, st22⟩ := own_same X13 hx hZ hw hown hmd e13 N13 Zs13 hsy22 V_pa_23 (i := (2 : Int32)) (j := (3 : Int32)) (r := (0 : Int32)) ⟨by decide, by decide⟩ ⟨by decide, by decide⟩ rfl rfl (by simp [hq23_14]) rfl (g := (mkF m 35 #[rv sy, iv (4 : Int32), rv co, rv ob1, iv (2 : Int32), .val (.long (0 : Int64)), .second, iv (3 : Int32)] [(.int (3 : Int32)), (.int (2 : Int32)), (.ref sy)])) rfl (by rw [hml]; rfl) rfl rfl (hb hby d7_35) (by decide) (by decide) (by decide) (by decide)
        refine Goes.step ?_ st22
        show Goes p e below _ (sF T22 m 40 #[rv sy, iv (4 : Int32), rv co, rv ob1, iv (2 : Int32), .val (.long (0 : Int64)), .second, iv (3 : Int32)] [(.int (0 : Int32))])
        refine Goes.step ?_ (fun _ k => XS.ifNo X22.here hx rfl (hb hby d7_40) rfl ((if0 _ _).trans (teq (by decide : (0 : Int32) = (0 : Int32))).2) k)
        show Goes p e below _ (sF T22 m 43 #[rv sy, iv (4 : Int32), rv co, rv ob1, iv (2 : Int32), .val (.long (0 : Int64)), .second, iv (3 : Int32)] [])
        refine Goes.step ?_ (fun _ k => XS.aloadN X22.here hx rfl (hb hby d7_43) rfl rfl k)
        show Goes p e below _ (sF T22 m 44 #[rv sy, iv (4 : Int32), rv co, rv ob1, iv (2 : Int32), .val (.long (0 : Int64)), .second, iv (3 : Int32)] [(.ref ob1)])
        refine Goes.step ?_ (fun _ k => XS.iload X22.here hx rfl (hb hby d7_44) rfl  k)
        show Goes p e below _ (sF T22 m 46 #[rv sy, iv (4 : Int32), rv co, rv ob1, iv (2 : Int32), .val (.long (0 : Int64)), .second, iv (3 : Int32)] [(.int (2 : Int32)), (.ref ob1)])
        obtain ⟨cl24, Ar24, q24, S24, N_24, H24, G24⟩ := id V_13
        have hin25 : ¬ ((2 : Int32) < 0 ∨ cl24.slots.size ≤ ((2 : Int32)).toNatClampNeg) := inb_of S24 ⟨by decide, by decide⟩
        have hat25 : cl24.slots[((2 : Int32)).toNatClampNeg]? = some (.int (1 : Int32)) := H24.at hin25 rfl
        refine Goes.step ?_ (fun _ k => X22.iaload hx (j := (2 : Int32)) (v := (.int (1 : Int32))) (by rw [e22]; exact Ar24.1) (State.isArrayOf_alike hZ.alike Ar24.2.1) Ar24.2.2 hin25 hat25 (g := (mkF m 46 #[rv sy, iv (4 : Int32), rv co, rv ob1, iv (2 : Int32), .val (.long (0 : Int64)), .second, iv (3 : Int32)] [(.int (2 : Int32)), (.ref ob1)])) rfl rfl (hb hby d7_46) _ k)
        show Goes p e below _ (sF T22 m 47 #[rv sy, iv (4 : Int32), rv co, rv ob1, iv (2 : Int32), .val (.long (0 : Int64)), .second, iv (3 : Int32)] [(.int (1 : Int32))])
        refine Goes.step ?_ (fun _ k => XS.istore X22.here hx rfl (hb hby d7_47) rfl (l' := #[rv sy, iv (4 : Int32), rv co, rv ob1, iv (1 : Int32), .val (.long (0 : Int64)), .second, iv (3 : Int32)]) rfl k)
        show Goes p e below _ (sF T22 m 49 #[rv sy, iv (4 : Int32), rv co, rv ob1, iv (1 : Int32), .val (.long (0 : Int64)), .second, iv (3 : Int32)] [])
        refine Goes.step ?_ (fun _ k => XS.lload X22.here hx rfl (hb hby d7_49) rfl  k)
        show Goes p e below _ (sF T22 m 51 #[rv sy, iv (4 : Int32), rv co, rv ob1, iv (1 : Int32), .val (.long (0 : Int64)), .second, iv (3 : Int32)] [(.long (0 : Int64))])
        refine Goes.step ?_ (fun _ k => XS.lconst X22.here hx rfl (hb hby d7_51) k)
        show Goes p e below _ (sF T22 m 52 #[rv sy, iv (4 : Int32), rv co, rv ob1, iv (1 : Int32), .val (.long (0 : Int64)), .second, iv (3 : Int32)] [(.long (1 : Int64)), (.long (0 : Int64))])
        refine Goes.step ?_ (fun _ k => XS.ladd X22.here hx rfl (hb hby d7_52) rfl k)
        show Goes p e below _ (sF T22 m 53 #[rv sy, iv (4 : Int32), rv co, rv ob1, iv (1 : Int32), .val (.long (0 : Int64)), .second, iv (3 : Int32)] [(.long ((0 : Int64) + (1 : Int64)))])
        refine Goes.step ?_ (fun _ k => XS.lstore X22.here hx rfl (hb hby d7_53) rfl (l' := #[rv sy, iv (4 : Int32), rv co, rv ob1, iv (1 : Int32), .val (.long ((0 : Int64) + (1 : Int64))), .second, iv (3 : Int32)]) rfl k)
        show Goes p e below _ (sF T22 m 55 #[rv sy, iv (4 : Int32), rv co, rv ob1, iv (1 : Int32), .val (.long ((0 : Int64) + (1 : Int64))), .second, iv (3 : Int32)] [])
        refine Goes.step ?_ (fun _ k => XS.goto X22.here hx rfl (pc0 := 55) (pc' := 25) rfl (hb hby d7_55) (by decide) (by decide) k)
        show Goes p e below _ (sF T22 m 25 #[rv sy, iv (4 : Int32), rv co, rv ob1, iv (1 : Int32), .val (.long ((0 : Int64) + (1 : Int64))), .second, iv (3 : Int32)] [])
        refine Goes.step ?_ (fun _ k => XS.iload X22.here hx rfl (hb hby d7_25) rfl  k)
        show Goes p e below _ (sF T22 m 27 #[rv sy, iv (4 : Int32), rv co, rv ob1, iv (1 : Int32), .val (.long ((0 : Int64) + (1 : Int64))), .second, iv (3 : Int32)] [(.int (1 : Int32))])
        refine Goes.step ?_ (fun _ k => XS.ifNo X22.here hx rfl (hb hby d7_27) rfl ((if0 _ _).trans (tlt (by decide : (0 : Int32) < (1 : Int32))).2.2.2) k)
        show Goes p e below _ (sF T22 m 30 #[rv sy, iv (4 : Int32), rv co, rv ob1, iv (1 : Int32), .val (.long ((0 : Int64) + (1 : Int64))), .second, iv (3 : Int32)] [])
        refine Goes.step ?_ (fun _ k => XS.aloadN X22.here hx rfl (hb hby d7_30) rfl rfl k)
        show Goes p e below _ (sF T22 m 31 #[rv sy, iv (4 : Int32), rv co, rv ob1, iv (1 : Int32), .val (.long ((0 : Int64) + (1 : Int64))), .second, iv (3 : Int32)] [(.ref sy)])
        refine Goes.step ?_ (fun _ k => XS.iload X22.here hx rfl (hb hby d7_31) rfl  k)
        show Goes p e below _ (sF T22 m 33 #[rv sy, iv (4 : Int32), rv co, rv ob1, iv (1 : Int32), .val (.long ((0 : Int64) + (1 : Int64))), .second, iv (3 : Int32)] [(.int (1 : Int32)), (.ref sy)])
        refine Goes.step ?_ (fun _ k => XS.iload X22.here hx rfl (hb hby d7_33) rfl  k)
        show Goes p e below _ (sF T22 m 35 #[rv sy, iv (4 : Int32), rv co, rv ob1, iv (1 : Int32), .val (.long ((0 : Int64) + (1 : Int64))), .second, iv (3 : Int32)] [(.int (3 : Int32)), (.int (1 : Int32)), (.ref sy)])
        have hq13_26 : ¬ b1 = b3 := by intro q; simp_all
        have hsy27 : h13[sy]? = some ({ cls := cK, slots := #[.ref pa], vm := .none } : Cell) := hsy22
        obtain ⟨T27, L27, X27, e27, N27, st27⟩ := own_same X22 hx hZ hw hown hmd e22 N22 Zs13 hsy27 V_pa_23 (i := (1 : Int32)) (j := (3 : Int32)) (r := (0 : Int32)) ⟨by decide, by decide⟩ ⟨by decide, by decide⟩ rfl rfl (by simp [hq13_26]) rfl (g := (mkF m 35 #[rv sy, iv (4 : Int32), rv co, rv ob1, iv (1 : Int32), .val (.long ((0 : Int64) + (1 : Int64))), .second, iv (3 : Int32)] [(.int (3 : Int32)), (.int (1 : Int32)), (.ref sy)])) rfl (by rw [hml]; rfl) rfl rfl (hb hby d7_35) (by decide) (by decide) (by decide) (by decide)
        refine Goes.step ?_ st27
        show Goes p e below _ (sF T27 m 40 #[rv sy, iv (4 : Int32), rv co, rv ob1, iv (1 : Int32), .val (.long ((0 : Int64) + (1 : Int64))), .second, iv (3 : Int32)] [(.int (0 : Int32))])
        refine Goes.step ?_ (fun _ k => XS.ifNo X27.here hx rfl (hb hby d7_40) rfl ((if0 _ _).trans (teq (by decide : (0 : Int32) = (0 : Int32))).2) k)
        show Goes p e below _ (sF T27 m 43 #[rv sy, iv (4 : Int32), rv co, rv ob1, iv (1 : Int32), .val (.long ((0 : Int64) + (1 : Int64))), .second, iv (3 : Int32)] [])
        refine Goes.step ?_ (fun _ k => XS.aloadN X27.here hx rfl (hb hby d7_43) rfl rfl k)
        show Goes p e below _ (sF T27 m 44 #[rv sy, iv (4 : Int32), rv co, rv ob1, iv (1 : Int32), .val (.long ((0 : Int64) + (1 : Int64))), .second, iv (3 : Int32)] [(.ref ob1)])
        refine Goes.step ?_ (fun _ k => XS.iload X27.here hx rfl (hb hby d7_44) rfl  k)
        show Goes p e below _ (sF T27 m 46 #[rv sy, iv (4 : Int32), rv co, rv ob1, iv (1 : Int32), .val (.long ((0 : Int64) + (1 : Int64))), .second, iv (3 : Int32)] [(.int (1 : Int32)), (.ref ob1)])
        obtain ⟨cl28, Ar28, q28, S28, N_28, H28, G28⟩ := id V_13
        have hin29 : ¬ ((1 : Int32) < 0 ∨ cl28.slots.size ≤ ((1 : Int32)).toNatClampNeg) := inb_of S28 ⟨by decide, by decide⟩
        have hat29 : cl28.slots[((1 : Int32)).toNatClampNeg]? = some (.int (0 : Int32)) := H28.at hin29 rfl
        refine Goes.step ?_ (fun _ k => X27.iaload hx (j := (1 : Int32)) (v := (.int (0 : Int32))) (by rw [e27]; exact Ar28.1) (State.isArrayOf_alike hZ.alike Ar28.2.1) Ar28.2.2 hin29 hat29 (g := (mkF m 46 #[rv sy, iv (4 : Int32), rv co, rv ob1, iv (1 : Int32), .val (.long ((0 : Int64) + (1 : Int64))), .second, iv (3 : Int32)] [(.int (1 : Int32)), (.ref ob1)])) rfl rfl (hb hby d7_46) _ k)
        show Goes p e below _ (sF T27 m 47 #[rv sy, iv (4 : Int32), rv co, rv ob1, iv (1 : Int32), .val (.long ((0 : Int64) + (1 : Int64))), .second, iv (3 : Int32)] [(.int (0 : Int32))])
        refine Goes.step ?_ (fun _ k => XS.istore X27.here hx rfl (hb hby d7_47) rfl (l' := #[rv sy, iv (4 : Int32), rv co, rv ob1, iv (0 : Int32), .val (.long ((0 : Int64) + (1 : Int64))), .second, iv (3 : Int32)]) rfl k)
        show Goes p e below _ (sF T27 m 49 #[rv sy, iv (4 : Int32), rv co, rv ob1, iv (0 : Int32), .val (.long ((0 : Int64) + (1 : Int64))), .second, iv (3 : Int32)] [])
        refine Goes.step ?_ (fun _ k => XS.lload X27.here hx rfl (hb hby d7_49) rfl  k)
        show Goes p e below _ (sF T27 m 51 #[rv sy, iv (4 : Int32), rv co, rv ob1, iv (0 : Int32), .val (.long ((0 : Int64) + (1 : Int64))), .second, iv (3 : Int32)] [(.long ((0 : Int64) + (1 : Int64)))])
        refine Goes.step ?_ (fun _ k => XS.lconst X27.here hx rfl (hb hby d7_51) k)
        show Goes p e below _ (sF T27 m 52 #[rv sy, iv (4 : Int32), rv co, rv ob1, iv (0 : Int32), .val (.long ((0 : Int64) + (1 : Int64))), .second, iv (3 : Int32)] [(.long (1 : Int64)), (.long ((0 : Int64) + (1 : Int64)))])
        refine Goes.step ?_ (fun _ k => XS.ladd X27.here hx rfl (hb hby d7_52) rfl k)
        show Goes p e below _ (sF T27 m 53 #[rv sy, iv (4 : Int32), rv co, rv ob1, iv (0 : Int32), .val (.long ((0 : Int64) + (1 : Int64))), .second, iv (3 : Int32)] [(.long (((0 : Int64) + (1 : Int64)) + (1 : Int64)))])
        refine Goes.step ?_ (fun _ k => XS.lstore X27.here hx rfl (hb hby d7_53) rfl (l' := #[rv sy, iv (4 : Int32), rv co, rv ob1, iv (0 : Int32), .val (.long (((0 : Int64) + (1 : Int64)) + (1 : Int64))), .second, iv (3 : Int32)]) rfl k)
        show Goes p e below _ (sF T27 m 55 #[rv sy, iv (4 : Int32), rv co, rv ob1, iv (0 : Int32), .val (.long (((0 : Int64) + (1 : Int64)) + (1 : Int64))), .second, iv (3 : Int32)] [])
        refine Goes.step ?_ (fun _ k => XS.goto X27.here hx rfl (pc0 := 55) (pc' := 25) rfl (hb hby d7_55) (by decide) (by decide) k)
        show Goes p e below _ (sF T27 m 25 #[rv sy, iv (4 : Int32), rv co, rv ob1, iv (0 : Int32), .val (.long (((0 : Int64) + (1 : Int64)) + (1 : Int64))), .second, iv (3 : Int32)] [])
        refine Goes.step ?_ (fun _ k => XS.iload X27.here hx rfl (hb hby d7_25) rfl  k)
        show Goes p e below _ (sF T27 m 27 #[rv sy, iv (4 : Int32), rv co, rv ob1, iv (0 : Int32), .val (.long (((0 : Int64) + (1 : Int64)) + (1 : Int64))), .second, iv (3 : Int32)] [(.int (0 : Int32))])
        refine Goes.step ?_ (fun _ k => XS.ifYes X27.here hx rfl (pc0 := 27) (pc' := 58) rfl (hb hby d7_27) rfl ((if0 _ _).trans (flt (by decide : ¬ ((0 : Int32) < (0 : Int32)))).2.2.2) (by decide) (by decide) k)
        show Goes p e below _ (sF T27 m 58 #[rv sy, iv (4 : Int32), rv co, rv ob1, iv (0 : Int32), .val (.long (((0 : Int64) + (1 : Int64)) + (1 : Int64))), .second, iv (3 : Int32)] [])
        refine Goes.step ?_ (fun _ k => XS.iload X27.here hx rfl (hb hby d7_58) rfl  k)
        show Goes p e below _ (sF T27 m 60 #[rv sy, iv (4 : Int32), rv co, rv ob1, iv (0 : Int32), .val (.long (((0 : Int64) + (1 : Int64)) + (1 : Int64))), .second, iv (3 : Int32)] [(.int (0 : Int32))])
        refine Goes.step ?_ (fun _ k => XS.ifNo X27.here hx rfl (hb hby d7_60) rfl ((if0 _ _).trans (flt (by decide : ¬ ((0 : Int32) < (0 : Int32)))).2.2.1) k)
        show Goes p e below _ (sF T27 m 63 #[rv sy, iv (4 : Int32), rv co, rv ob1, iv (0 : Int32), .val (.long (((0 : Int64) + (1 : Int64)) + (1 : Int64))), .second, iv (3 : Int32)] [])
        refine Goes.step ?_ (fun _ k => XS.aloadN X27.here hx rfl (hb hby d7_63) rfl rfl k)
        show Goes p e below _ (sF T27 m 64 #[rv sy, iv (4 : Int32), rv co, rv ob1, iv (0 : Int32), .val (.long (((0 : Int64) + (1 : Int64)) + (1 : Int64))), .second, iv (3 : Int32)] [(.ref sy)])
        refine Goes.step ?_ (fun _ k => XS.iconst X27.here hx rfl (hb hby d7_64) k)
        show Goes p e below _ (sF T27 m 65 #[rv sy, iv (4 : Int32), rv co, rv ob1, iv (0 : Int32), .val (.long (((0 : Int64) + (1 : Int64)) + (1 : Int64))), .second, iv (3 : Int32)] [(.int (0 : Int32)), (.ref sy)])
        refine Goes.step ?_ (fun _ k => XS.iload X27.here hx rfl (hb hby d7_65) rfl  k)
        show Goes p e below _ (sF T27 m 67 #[rv sy, iv (4 : Int32), rv co, rv ob1, iv (0 : Int32), .val (.long (((0 : Int64) + (1 : Int64)) + (1 : Int64))), .second, iv (3 : Int32)] [(.int (3 : Int32)), (.int (0 : Int32)), (.ref sy)])
        have hq03_30 : ¬ b0 = b3 := by intro q; simp_all
        have hsy31 : h13[sy]? = some ({ cls := cK, slots := #[.ref pa], vm := .none } : Cell) := hsy27
        obtain ⟨T31, L31, X31, e31, N31, st31⟩ := own_same X27 hx hZ hw hown hmd e27 N27 Zs13 hsy31 V_pa_23 (i := (0 : Int32)) (j := (3 : Int32)) (r := (0 : Int32)) ⟨by decide, by decide⟩ ⟨by decide, by decide⟩ rfl rfl (by simp [hq03_30]) rfl (g := (mkF m 67 #[rv sy, iv (4 : Int32), rv co, rv ob1, iv (0 : Int32), .val (.long (((0 : Int64) + (1 : Int64)) + (1 : Int64))), .second, iv (3 : Int32)] [(.int (3 : Int32)), (.int (0 : Int32)), (.ref sy)])) rfl (by rw [hml]; rfl) rfl rfl (hb hby d7_67) (by decide) (by decide) (by decide) (by decide)
        refine Goes.step ?_ st31
        show Goes p e below _ (sF T31 m 72 #[rv sy, iv (4 : Int32), rv co, rv ob1, iv (0 : Int32), .val (.long (((0 : Int64) + (1 : Int64)) + (1 : Int64))), .second, iv (3 : Int32)] [(.int (0 : Int32))])
        refine Goes.step ?_ (fun _ k => XS.ifYes X31.here hx rfl (pc0 := 72) (pc' := 78) rfl (hb hby d7_72) rfl ((if0 _ _).trans (teq (by decide : (0 : Int32) = (0 : Int32))).1) (by decide) (by decide) k)
        show Goes p e below _ (sF T31 m 78 #[rv sy, iv (4 : Int32), rv co, rv ob1, iv (0 : Int32), .val (.long (((0 : Int64) + (1 : Int64)) + (1 : Int64))), .second, iv (3 : Int32)] [])
        refine Goes.step ?_ (fun _ k => XS.aloadN X31.here hx rfl (hb hby d7_78) rfl rfl k)
        show Goes p e below _ (sF T31 m 79 #[rv sy, iv (4 : Int32), rv co, rv ob1, iv (0 : Int32), .val (.long (((0 : Int64) + (1 : Int64)) + (1 : Int64))), .second, iv (3 : Int32)] [(.ref ob1)])
        refine Goes.step ?_ (fun _ k => XS.iload X31.here hx rfl (hb hby d7_79) rfl  k)
        show Goes p e below _ (sF T31 m 81 #[rv sy, iv (4 : Int32), rv co, rv ob1, iv (0 : Int32), .val (.long (((0 : Int64) + (1 : Int64)) + (1 : Int64))), .second, iv (3 : Int32)] [(.int (3 : Int32)), (.ref ob1)])
        refine Goes.step ?_ (fun _ k => XS.iconst X31.here hx rfl (hb hby d7_81) k)
        show Goes p e below _ (sF T31 m 82 #[rv sy, iv (4 : Int32), rv co, rv ob1, iv (0 : Int32), .val (.long (((0 : Int64) + (1 : Int64)) + (1 : Int64))), .second, iv (3 : Int32)] [(.int (1 : Int32)), (.int (3 : Int32)), (.ref ob1)])
        refine Goes.step ?_ (fun _ k => XS.iadd X31.here hx rfl (hb hby d7_82) rfl k)
        show Goes p e below _ (sF T31 m 83 #[rv sy, iv (4 : Int32), rv co, rv ob1, iv (0 : Int32), .val (.long (((0 : Int64) + (1 : Int64)) + (1 : Int64))), .second, iv (3 : Int32)] [(.int ((3 : Int32) + (1 : Int32))), (.ref ob1)])
        rw [show ((3 : Int32) + (1 : Int32)) = (4 : Int32) from by decide]
        show Goes p e below _ (sF T31 m 83 #[rv sy, iv (4 : Int32), rv co, rv ob1, iv (0 : Int32), .val (.long (((0 : Int64) + (1 : Int64)) + (1 : Int64))), .second, iv (3 : Int32)] [(.int (4 : Int32)), (.ref ob1)])
        refine Goes.step ?_ (fun _ k => XS.iload X31.here hx rfl (hb hby d7_83) rfl  k)
        show Goes p e below _ (sF T31 m 85 #[rv sy, iv (4 : Int32), rv co, rv ob1, iv (0 : Int32), .val (.long (((0 : Int64) + (1 : Int64)) + (1 : Int64))), .second, iv (3 : Int32)] [(.int (0 : Int32)), (.int (4 : Int32)), (.ref ob1)])
        obtain ⟨cl32, Ar32, q32, S32, N_32, H32, G32⟩ := id V_13
        have hin33 : ¬ ((4 : Int32) < 0 ∨ cl32.slots.size ≤ ((4 : Int32)).toNatClampNeg) := inb_of S32 ⟨by decide, by decide⟩
        obtain ⟨T33, h33, X33, e33, W33, st33⟩ := stI X31 hx hZ e31 Ar32 (j := (4 : Int32)) hin33 (g := (mkF m 85 #[rv sy, iv (4 : Int32), rv co, rv ob1, iv (0 : Int32), .val (.long (((0 : Int64) + (1 : Int64)) + (1 : Int64))), .second, iv (3 : Int32)] [(.int (0 : Int32)), (.int (4 : Int32)), (.ref ob1)])) rfl rfl (hb hby d7_85)
        have V_33 : Arv Z h33 ob1 k1 .int (5 : Int32) [(.int (-1 : Int32)), (.int (0 : Int32)), (.int (1 : Int32)), (.int (2 : Int32)), (.int (0 : Int32))] (.int (0 : Int32)) := Arv.set Ar32 q32 S32 N_32 H32 G32 rfl W33 4 rfl (Nat.le_of_ble_eq_true rfl)
        have Zs33 : n0 ≤ h33.size := Nat.le_trans Zs13 (Keep.of_wr W33).1
        have N33 := Fr.snoc X33 N31 g_ob1
        refine Goes.step ?_ st33
        show Goes p e below _ (sF T33 m 86 #[rv sy, iv (4 : Int32), rv co, rv ob1, iv (0 : Int32), .val (.long (((0 : Int64) + (1 : Int64)) + (1 : Int64))), .second, iv (3 : Int32)] [])
        refine Goes.step ?_ (fun _ k => XS.iinc X33.here hx rfl (hb hby d7_86) rfl (l' := #[rv sy, iv (4 : Int32), rv co, rv ob1, iv (0 : Int32), .val (.long (((0 : Int64) + (1 : Int64)) + (1 : Int64))), .second, iv ((3 : Int32) + (1 : Int32))]) rfl k)
        show Goes p e below _ (sF T33 m 89 #[rv sy, iv (4 : Int32), rv co, rv ob1, iv (0 : Int32), .val (.long (((0 : Int64) + (1 : Int64)) + (1 : Int64))), .second, iv ((3 : Int32) + (1 : Int32))] [])
        rw [show ((3 : Int32) + (1 : Int32)) = (4 : Int32) from by decide]
        show Goes p e below _ (sF T33 m 89 #[rv sy, iv (4 : Int32), rv co, rv ob1, iv (0 : Int32), .val (.long (((0 : Int64) + (1 : Int64)) + (1 : Int64))), .second, iv (4 : Int32)] [])
        refine Goes.step ?_ (fun _ k => XS.goto X33.here hx rfl (pc0 := 89) (pc' := 19) rfl (hb hby d7_89) (by decide) (by decide) k)
        show Goes p e below _ (sF T33 m 19 #[rv sy, iv (4 : Int32), rv co, rv ob1, iv (0 : Int32), .val (.long (((0 : Int64) + (1 : Int64)) + (1 : Int64))), .second, iv (4 : Int32)] [])
        refine Goes.step ?_ (fun _ k => XS.iload X33.here hx rfl (hb hby d7_19) rfl  k)
        show Goes p e below _ (sF T33 m 21 #[rv sy, iv (4 : Int32), rv co, rv ob1, iv (0 : Int32), .val (.long (((0 : Int64) + (1 : Int64)) + (1 : Int64))), .second, iv (4 : Int32)] [(.int (4 : Int32))])
        refine Goes.step ?_ (fun _ k => XS.iloadN X33.here hx rfl (hb hby d7_21) rfl  k)
        show Goes p e below _ (sF T33 m 22 #[rv sy, iv (4 : Int32), rv co, rv ob1, iv (0 : Int32), .val (.long (((0 : Int64) + (1 : Int64)) + (1 : Int64))), .second, iv (4 : Int32)] [(.int (4 : Int32)), (.int (4 : Int32))])
        refine Goes.step ?_ (fun _ k => XS.icmpYes X33.here hx rfl (pc0 := 22) (pc' := 92) rfl (hb hby d7_22) rfl (flt (by decide : ¬ ((4 : Int32) < (4 : Int32)))).2.1 (by decide) (by decide) k)
        show Goes p e below _ (sF T33 m 92 #[rv sy, iv (4 : Int32), rv co, rv ob1, iv (0 : Int32), .val (.long (((0 : Int64) + (1 : Int64)) + (1 : Int64))), .second, iv (4 : Int32)] [])
        have t2 : (lg2 b0 b1) = (1 : Int32) := by simp only [lg2]; (first | (simp [hq01_4, hq12_9, hq23_14, hq13_26, hq03_30]; done) | (simp_all; done) | grind)
        have t3 : (lg3 b0 b1 b2) = (2 : Int32) := by simp only [lg3]; (first | (simp [hq01_4, hq12_9, hq23_14, hq13_26, hq03_30]; done) | (simp_all; done) | grind)
        have t4 : (lg4 b0 b1 b2 b3) = (0 : Int32) := by simp only [lg4]; (first | (simp [hq01_4, hq12_9, hq23_14, hq13_26, hq03_30]; done) | (simp_all; done) | grind)
        rw [show ([(.int (-1 : Int32)), (.int (0 : Int32)), (.int (1 : Int32)), (.int (2 : Int32)), (.int (0 : Int32))] : List Value) = [(.int (-1 : Int32)), (.int (0 : Int32)), (.int (lg2 b0 b1)), (.int (lg3 b0 b1 b2)), (.int (lg4 b0 b1 b2 b3))] from by rw [t2, t3, t4]] at V_33
        have K_34 := ((((((Keep.refl h0 [co]).ext E1).wr W3 (Or.inr sz_ob1)).wr W8 (Or.inr sz_ob1)).wr W13 (Or.inr sz_ob1)).wr W33 (Or.inr sz_ob1))
        have F_co_count_35 := (((((F_count.ext E1).other W3 (Or.inl ne_co_ob1)).other W8 (Or.inl ne_co_ob1)).other W13 (Or.inl ne_co_ob1)).other W33 (Or.inl ne_co_ob1))
        have E_co_36 := (((((E_co.ext E1).wr W3).wr W8).wr W13).wr W33)
        exact bu92_5 h0 sy co ob1 k1 b0 b1 b2 b3 b4 (0 : Int32) (((0 : Int64) + (1 : Int64)) + (1 : Int64)) (4 : Int32) X33 hx hZ hw hby hlk hret hml hown e33 N33 Zs33 K_34 V_33 F_co_count_35 E_co_36 ne_co_ob1 g_co sz_ob1 (by decide) (by decide)
    · have hsy37 : h8[sy]? = some ({ cls := cK, slots := #[.ref pa], vm := .none } : Cell) := ((Keep.of_wr W8).2.1 _ _ hsy5 (ninS ne_sy_ob1 nin0))
      have V_pa_38 := (V_pa_6.other W8 ne_pa_ob1)
      obtain ⟨T37, L37, X37, e37, N37, st37⟩ := own_same X8 hx hZ hw hown hmd e8 N8 Zs8 hsy37 V_pa_38 (i := (1 : Int32)) (j := (2 : Int32)) (r := (0 : Int32)) ⟨by decide, by decide⟩ ⟨by decide, by decide⟩ rfl rfl (by simp [hq12_9]) rfl (g := (mkF m 35 #[rv sy, iv (4 : Int32), rv co, rv ob1, iv (1 : Int32), .val (.long (0 : Int64)), .second, iv (2 : Int32)] [(.int (2 : Int32)), (.int (1 : Int32)), (.ref sy)])) rfl (by rw [hml]; rfl) rfl rfl (hb hby d7_35) (by decide) (by decide) (by decide) (by decide)
      refine Goes.step ?_ st37
      show Goes p e below _ (sF T37 m 40 #[rv sy, iv (4 : Int32), rv co, rv ob1, iv (1 : Int32), .val (.long (0 : Int64)), .second, iv (2 : Int32)] [(.int (0 : Int32))])
      refine Goes.step ?_ (fun _ k => XS.ifNo X37.here hx rfl (hb hby d7_40) rfl ((if0 _ _).trans (teq (by decide : (0 : Int32) = (0 : Int32))).2) k)
      show Goes p e below _ (sF T37 m 43 #[rv sy, iv (4 : Int32), rv co, rv ob1, iv (1 : Int32), .val (.long (0 : Int64)), .second, iv (2 : Int32)] [])
      refine Goes.step ?_ (fun _ k => XS.aloadN X37.here hx rfl (hb hby d7_43) rfl rfl k)
      show Goes p e below _ (sF T37 m 44 #[rv sy, iv (4 : Int32), rv co, rv ob1, iv (1 : Int32), .val (.long (0 : Int64)), .second, iv (2 : Int32)] [(.ref ob1)])
      refine Goes.step ?_ (fun _ k => XS.iload X37.here hx rfl (hb hby d7_44) rfl  k)
      show Goes p e below _ (sF T37 m 46 #[rv sy, iv (4 : Int32), rv co, rv ob1, iv (1 : Int32), .val (.long (0 : Int64)), .second, iv (2 : Int32)] [(.int (1 : Int32)), (.ref ob1)])
      obtain ⟨cl39, Ar39, q39, S39, N_39, H39, G39⟩ := id V_8
      have hin40 : ¬ ((1 : Int32) < 0 ∨ cl39.slots.size ≤ ((1 : Int32)).toNatClampNeg) := inb_of S39 ⟨by decide, by decide⟩
      have hat40 : cl39.slots[((1 : Int32)).toNatClampNeg]? = some (.int (0 : Int32)) := H39.at hin40 rfl
      refine Goes.step ?_ (fun _ k => X37.iaload hx (j := (1 : Int32)) (v := (.int (0 : Int32))) (by rw [e37]; exact Ar39.1) (State.isArrayOf_alike hZ.alike Ar39.2.1) Ar39.2.2 hin40 hat40 (g := (mkF m 46 #[rv sy, iv (4 : Int32), rv co, rv ob1, iv (1 : Int32), .val (.long (0 : Int64)), .second, iv (2 : Int32)] [(.int (1 : Int32)), (.ref ob1)])) rfl rfl (hb hby d7_46) _ k)
      show Goes p e below _ (sF T37 m 47 #[rv sy, iv (4 : Int32), rv co, rv ob1, iv (1 : Int32), .val (.long (0 : Int64)), .second, iv (2 : Int32)] [(.int (0 : Int32))])
      refine Goes.step ?_ (fun _ k => XS.istore X37.here hx rfl (hb hby d7_47) rfl (l' := #[rv sy, iv (4 : Int32), rv co, rv ob1, iv (0 : Int32), .val (.long (0 : Int64)), .second, iv (2 : Int32)]) rfl k)
      show Goes p e below _ (sF T37 m 49 #[rv sy, iv (4 : Int32), rv co, rv ob1, iv (0 : Int32), .val (.long (0 : Int64)), .second, iv (2 : Int32)] [])
      refine Goes.step ?_ (fun _ k => XS.lload X37.here hx rfl (hb hby d7_49) rfl  k)
      show Goes p e below _ (sF T37 m 51 #[rv sy, iv (4 : Int32), rv co, rv ob1, iv (0 : Int32), .val (.long (0 : Int64)), .second, iv (2 : Int32)] [(.long (0 : Int64))])
      refine Goes.step ?_ (fun _ k => XS.lconst X37.here hx rfl (hb hby d7_51) k)
      show Goes p e below _ (sF T37 m 52 #[rv sy, iv (4 : Int32), rv co, rv ob1, iv (0 : Int32), .val (.long (0 : Int64)), .second, iv (2 : Int32)] [(.long (1 : Int64)), (.long (0 : Int64))])
      refine Goes.step ?_ (fun _ k => XS.ladd X37.here hx rfl (hb hby d7_52) rfl k)
      show Goes p e below _ (sF T37 m 53 #[rv sy, iv (4 : Int32), rv co, rv ob1, iv (0 : Int32), .val (.long (0 : Int64)), .second, iv (2 : Int32)] [(.long ((0 : Int64) + (1 : Int64)))])
      refine Goes.step ?_ (fun _ k => XS.lstore X37.here hx rfl (hb hby d7_53) rfl (l' := #[rv sy, iv (4 : Int32), rv co, rv ob1, iv (0 : Int32), .val (.long ((0 : Int64) + (1 : Int64))), .second, iv (2 : Int32)]) rfl k)
      show Goes p e below _ (sF T37 m 55 #[rv sy, iv (4 : Int32), rv co, rv ob1, iv (0 : Int32), .val (.long ((0 : Int64) + (1 : Int64))), .second, iv (2 : Int32)] [])
      refine Goes.step ?_ (fun _ k => XS.goto X37.here hx rfl (pc0 := 55) (pc' := 25) rfl (hb hby d7_55) (by decide) (by decide) k)
      show Goes p e below _ (sF T37 m 25 #[rv sy, iv (4 : Int32), rv co, rv ob1, iv (0 : Int32), .val (.long ((0 : Int64) + (1 : Int64))), .second, iv (2 : Int32)] [])
      refine Goes.step ?_ (fun _ k => XS.iload X37.here hx rfl (hb hby d7_25) rfl  k)
      show Goes p e below _ (sF T37 m 27 #[rv sy, iv (4 : Int32), rv co, rv ob1, iv (0 : Int32), .val (.long ((0 : Int64) + (1 : Int64))), .second, iv (2 : Int32)] [(.int (0 : Int32))])
      refine Goes.step ?_ (fun _ k => XS.ifYes X37.here hx rfl (pc0 := 27) (pc' := 58) rfl (hb hby d7_27) rfl ((if0 _ _).trans (flt (by decide : ¬ ((0 : Int32) < (0 : Int32)))).2.2.2) (by decide) (by decide) k)
      show Goes p e below _ (sF T37 m 58 #[rv sy, iv (4 : Int32), rv co, rv ob1, iv (0 : Int32), .val (.long ((0 : Int64) + (1 : Int64))), .second, iv (2 : Int32)] [])
      refine Goes.step ?_ (fun _ k => XS.iload X37.here hx rfl (hb hby d7_58) rfl  k)
      show Goes p e below _ (sF T37 m 60 #[rv sy, iv (4 : Int32), rv co, rv ob1, iv (0 : Int32), .val (.long ((0 : Int64) + (1 : Int64))), .second, iv (2 : Int32)] [(.int (0 : Int32))])
      refine Goes.step ?_ (fun _ k => XS.ifNo X37.here hx rfl (hb hby d7_60) rfl ((if0 _ _).trans (flt (by decide : ¬ ((0 : Int32) < (0 : Int32)))).2.2.1) k)
      show Goes p e below _ (sF T37 m 63 #[rv sy, iv (4 : Int32), rv co, rv ob1, iv (0 : Int32), .val (.long ((0 : Int64) + (1 : Int64))), .second, iv (2 : Int32)] [])
      refine Goes.step ?_ (fun _ k => XS.aloadN X37.here hx rfl (hb hby d7_63) rfl rfl k)
      show Goes p e below _ (sF T37 m 64 #[rv sy, iv (4 : Int32), rv co, rv ob1, iv (0 : Int32), .val (.long ((0 : Int64) + (1 : Int64))), .second, iv (2 : Int32)] [(.ref sy)])
      refine Goes.step ?_ (fun _ k => XS.iconst X37.here hx rfl (hb hby d7_64) k)
      show Goes p e below _ (sF T37 m 65 #[rv sy, iv (4 : Int32), rv co, rv ob1, iv (0 : Int32), .val (.long ((0 : Int64) + (1 : Int64))), .second, iv (2 : Int32)] [(.int (0 : Int32)), (.ref sy)])
      refine Goes.step ?_ (fun _ k => XS.iload X37.here hx rfl (hb hby d7_65) rfl  k)
      show Goes p e below _ (sF T37 m 67 #[rv sy, iv (4 : Int32), rv co, rv ob1, iv (0 : Int32), .val (.long ((0 : Int64) + (1 : Int64))), .second, iv (2 : Int32)] [(.int (2 : Int32)), (.int (0 : Int32)), (.ref sy)])
      have hq02_41 : ¬ b0 = b2 := by intro q; simp_all
      have hsy42 : h8[sy]? = some ({ cls := cK, slots := #[.ref pa], vm := .none } : Cell) := hsy37
      obtain ⟨T42, L42, X42, e42, N42, st42⟩ := own_same X37 hx hZ hw hown hmd e37 N37 Zs8 hsy42 V_pa_38 (i := (0 : Int32)) (j := (2 : Int32)) (r := (0 : Int32)) ⟨by decide, by decide⟩ ⟨by decide, by decide⟩ rfl rfl (by simp [hq02_41]) rfl (g := (mkF m 67 #[rv sy, iv (4 : Int32), rv co, rv ob1, iv (0 : Int32), .val (.long ((0 : Int64) + (1 : Int64))), .second, iv (2 : Int32)] [(.int (2 : Int32)), (.int (0 : Int32)), (.ref sy)])) rfl (by rw [hml]; rfl) rfl rfl (hb hby d7_67) (by decide) (by decide) (by decide) (by decide)
      refine Goes.step ?_ st42
      show Goes p e below _ (sF T42 m 72 #[rv sy, iv (4 : Int32), rv co, rv ob1, iv (0 : Int32), .val (.long ((0 : Int64) + (1 : Int64))), .second, iv (2 : Int32)] [(.int (0 : Int32))])
      refine Goes.step ?_ (fun _ k => XS.ifYes X42.here hx rfl (pc0 := 72) (pc' := 78) rfl (hb hby d7_72) rfl ((if0 _ _).trans (teq (by decide : (0 : Int32) = (0 : Int32))).1) (by decide) (by decide) k)
      show Goes p e below _ (sF T42 m 78 #[rv sy, iv (4 : Int32), rv co, rv ob1, iv (0 : Int32), .val (.long ((0 : Int64) + (1 : Int64))), .second, iv (2 : Int32)] [])
      refine Goes.step ?_ (fun _ k => XS.aloadN X42.here hx rfl (hb hby d7_78) rfl rfl k)
      show Goes p e below _ (sF T42 m 79 #[rv sy, iv (4 : Int32), rv co, rv ob1, iv (0 : Int32), .val (.long ((0 : Int64) + (1 : Int64))), .second, iv (2 : Int32)] [(.ref ob1)])
      refine Goes.step ?_ (fun _ k => XS.iload X42.here hx rfl (hb hby d7_79) rfl  k)
      show Goes p e below _ (sF T42 m 81 #[rv sy, iv (4 : Int32), rv co, rv ob1, iv (0 : Int32), .val (.long ((0 : Int64) + (1 : Int64))), .second, iv (2 : Int32)] [(.int (2 : Int32)), (.ref ob1)])
      refine Goes.step ?_ (fun _ k => XS.iconst X42.here hx rfl (hb hby d7_81) k)
      show Goes p e below _ (sF T42 m 82 #[rv sy, iv (4 : Int32), rv co, rv ob1, iv (0 : Int32), .val (.long ((0 : Int64) + (1 : Int64))), .second, iv (2 : Int32)] [(.int (1 : Int32)), (.int (2 : Int32)), (.ref ob1)])
      refine Goes.step ?_ (fun _ k => XS.iadd X42.here hx rfl (hb hby d7_82) rfl k)
      show Goes p e below _ (sF T42 m 83 #[rv sy, iv (4 : Int32), rv co, rv ob1, iv (0 : Int32), .val (.long ((0 : Int64) + (1 : Int64))), .second, iv (2 : Int32)] [(.int ((2 : Int32) + (1 : Int32))), (.ref ob1)])
      rw [show ((2 : Int32) + (1 : Int32)) = (3 : Int32) from by decide]
      show Goes p e below _ (sF T42 m 83 #[rv sy, iv (4 : Int32), rv co, rv ob1, iv (0 : Int32), .val (.long ((0 : Int64) + (1 : Int64))), .second, iv (2 : Int32)] [(.int (3 : Int32)), (.ref ob1)])
      refine Goes.step ?_ (fun _ k => XS.iload X42.here hx rfl (hb hby d7_83) rfl  k)
      show Goes p e below _ (sF T42 m 85 #[rv sy, iv (4 : Int32), rv co, rv ob1, iv (0 : Int32), .val (.long ((0 : Int64) + (1 : Int64))), .second, iv (2 : Int32)] [(.int (0 : Int32)), (.int (3 : Int32)), (.ref ob1)])
      obtain ⟨cl43, Ar43, q43, S43, N_43, H43, G43⟩ := id V_8
      have hin44 : ¬ ((3 : Int32) < 0 ∨ cl43.slots.size ≤ ((3 : Int32)).toNatClampNeg) := inb_of S43 ⟨by decide, by decide⟩
      obtain ⟨T44, h44, X44, e44, W44, st44⟩ := stI X42 hx hZ e42 Ar43 (j := (3 : Int32)) hin44 (g := (mkF m 85 #[rv sy, iv (4 : Int32), rv co, rv ob1, iv (0 : Int32), .val (.long ((0 : Int64) + (1 : Int64))), .second, iv (2 : Int32)] [(.int (0 : Int32)), (.int (3 : Int32)), (.ref ob1)])) rfl rfl (hb hby d7_85)
      have V_44 : Arv Z h44 ob1 k1 .int (5 : Int32) [(.int (-1 : Int32)), (.int (0 : Int32)), (.int (1 : Int32)), (.int (0 : Int32)), (.int (0 : Int32))] (.int (0 : Int32)) := Arv.set Ar43 q43 S43 N_43 H43 G43 rfl W44 3 rfl (Nat.le_of_ble_eq_true rfl)
      have Zs44 : n0 ≤ h44.size := Nat.le_trans Zs8 (Keep.of_wr W44).1
      have N44 := Fr.snoc X44 N42 g_ob1
      refine Goes.step ?_ st44
      show Goes p e below _ (sF T44 m 86 #[rv sy, iv (4 : Int32), rv co, rv ob1, iv (0 : Int32), .val (.long ((0 : Int64) + (1 : Int64))), .second, iv (2 : Int32)] [])
      refine Goes.step ?_ (fun _ k => XS.iinc X44.here hx rfl (hb hby d7_86) rfl (l' := #[rv sy, iv (4 : Int32), rv co, rv ob1, iv (0 : Int32), .val (.long ((0 : Int64) + (1 : Int64))), .second, iv ((2 : Int32) + (1 : Int32))]) rfl k)
      show Goes p e below _ (sF T44 m 89 #[rv sy, iv (4 : Int32), rv co, rv ob1, iv (0 : Int32), .val (.long ((0 : Int64) + (1 : Int64))), .second, iv ((2 : Int32) + (1 : Int32))] [])
      rw [show ((2 : Int32) + (1 : Int32)) = (3 : Int32) from by decide]
      show Goes p e below _ (sF T44 m 89 #[rv sy, iv (4 : Int32), rv co, rv ob1, iv (0 : Int32), .val (.long ((0 : Int64) + (1 : Int64))), .second, iv (3 : Int32)] [])
      refine Goes.step ?_ (fun _ k => XS.goto X44.here hx rfl (pc0 := 89) (pc' := 19) rfl (hb hby d7_89) (by decide) (by decide) k)
      show Goes p e below _ (sF T44 m 19 #[rv sy, iv (4 : Int32), rv co, rv ob1, iv (0 : Int32), .val (.long ((0 : Int64) + (1 : Int64))), .second, iv (3 : Int32)] [])
      refine Goes.step ?_ (fun _ k => XS.iload X44.here hx rfl (hb hby d7_19) rfl  k)
      show Goes p e below _ (sF T44 m 21 #[rv sy, iv (4 : Int32), rv co, rv ob1, iv (0 : Int32), .val (.long ((0 : Int64) + (1 : Int64))), .second, iv (3 : Int32)] [(.int (3 : Int32))])
      refine Goes.step ?_ (fun _ k => XS.iloadN X44.here hx rfl (hb hby d7_21) rfl  k)
      show Goes p e below _ (sF T44 m 22 #[rv sy, iv (4 : Int32), rv co, rv ob1, iv (0 : Int32), .val (.long ((0 : Int64) + (1 : Int64))), .second, iv (3 : Int32)] [(.int (4 : Int32)), (.int (3 : Int32))])
      refine Goes.step ?_ (fun _ k => XS.icmpNo X44.here hx rfl (hb hby d7_22) rfl (tlt (by decide : (3 : Int32) < (4 : Int32))).2.1 k)
      show Goes p e below _ (sF T44 m 25 #[rv sy, iv (4 : Int32), rv co, rv ob1, iv (0 : Int32), .val (.long ((0 : Int64) + (1 : Int64))), .second, iv (3 : Int32)] [])
      refine Goes.step ?_ (fun _ k => XS.iload X44.here hx rfl (hb hby d7_25) rfl  k)
      show Goes p e below _ (sF T44 m 27 #[rv sy, iv (4 : Int32), rv co, rv ob1, iv (0 : Int32), .val (.long ((0 : Int64) + (1 : Int64))), .second, iv (3 : Int32)] [(.int (0 : Int32))])
      refine Goes.step ?_ (fun _ k => XS.ifYes X44.here hx rfl (pc0 := 27) (pc' := 58) rfl (hb hby d7_27) rfl ((if0 _ _).trans (flt (by decide : ¬ ((0 : Int32) < (0 : Int32)))).2.2.2) (by decide) (by decide) k)
      show Goes p e below _ (sF T44 m 58 #[rv sy, iv (4 : Int32), rv co, rv ob1, iv (0 : Int32), .val (.long ((0 : Int64) + (1 : Int64))), .second, iv (3 : Int32)] [])
      refine Goes.step ?_ (fun _ k => XS.iload X44.here hx rfl (hb hby d7_58) rfl  k)
      show Goes p e below _ (sF T44 m 60 #[rv sy, iv (4 : Int32), rv co, rv ob1, iv (0 : Int32), .val (.long ((0 : Int64) + (1 : Int64))), .second, iv (3 : Int32)] [(.int (0 : Int32))])
      refine Goes.step ?_ (fun _ k => XS.ifNo X44.here hx rfl (hb hby d7_60) rfl ((if0 _ _).trans (flt (by decide : ¬ ((0 : Int32) < (0 : Int32)))).2.2.1) k)
      show Goes p e below _ (sF T44 m 63 #[rv sy, iv (4 : Int32), rv co, rv ob1, iv (0 : Int32), .val (.long ((0 : Int64) + (1 : Int64))), .second, iv (3 : Int32)] [])
      refine Goes.step ?_ (fun _ k => XS.aloadN X44.here hx rfl (hb hby d7_63) rfl rfl k)
      show Goes p e below _ (sF T44 m 64 #[rv sy, iv (4 : Int32), rv co, rv ob1, iv (0 : Int32), .val (.long ((0 : Int64) + (1 : Int64))), .second, iv (3 : Int32)] [(.ref sy)])
      refine Goes.step ?_ (fun _ k => XS.iconst X44.here hx rfl (hb hby d7_64) k)
      show Goes p e below _ (sF T44 m 65 #[rv sy, iv (4 : Int32), rv co, rv ob1, iv (0 : Int32), .val (.long ((0 : Int64) + (1 : Int64))), .second, iv (3 : Int32)] [(.int (0 : Int32)), (.ref sy)])
      refine Goes.step ?_ (fun _ k => XS.iload X44.here hx rfl (hb hby d7_65) rfl  k)
      show Goes p e below _ (sF T44 m 67 #[rv sy, iv (4 : Int32), rv co, rv ob1, iv (0 : Int32), .val (.long ((0 : Int64) + (1 : Int64))), .second, iv (3 : Int32)] [(.int (3 : Int32)), (.int (0 : Int32)), (.ref sy)])
      by_cases hq03_45 : b0 = b3
      · have hsy46 : h44[sy]? = some ({ cls := cK, slots := #[.ref pa], vm := .none } : Cell) := ((Keep.of_wr W44).2.1 _ _ hsy42 (ninS ne_sy_ob1 nin0))
        have V_pa_47 := (V_pa_38.other W44 ne_pa_ob1)
        obtain ⟨T46, L46, X46, e46, N46, st46⟩ := own_same X44 hx hZ hw hown hmd e44 N44 Zs44 hsy46 V_pa_47 (i := (0 : Int32)) (j := (3 : Int32)) (r := (1 : Int32)) ⟨by decide, by decide⟩ ⟨by decide, by decide⟩ rfl rfl (by simp [hq03_45]) rfl (g := (mkF m 67 #[rv sy, iv (4 : Int32), rv co, rv ob1, iv (0 : Int32), .val (.long ((0 : Int64) + (1 : Int64))), .second, iv (3 : Int32)] [(.int (3 : Int32)), (.int (0 : Int32)), (.ref sy)])) rfl (by rw [hml]; rfl) rfl rfl (hb hby d7_67) (by decide) (by decide) (by decide) (by decide)
        refine Goes.step ?_ st46
        show Goes p e below _ (sF T46 m 72 #[rv sy, iv (4 : Int32), rv co, rv ob1, iv (0 : Int32), .val (.long ((0 : Int64) + (1 : Int64))), .second, iv (3 : Int32)] [(.int (1 : Int32))])
        refine Goes.step ?_ (fun _ k => XS.ifNo X46.here hx rfl (hb hby d7_72) rfl ((if0 _ _).trans (feq (by decide : ¬ ((1 : Int32) = (0 : Int32)))).1) k)
        show Goes p e below _ (sF T46 m 75 #[rv sy, iv (4 : Int32), rv co, rv ob1, iv (0 : Int32), .val (.long ((0 : Int64) + (1 : Int64))), .second, iv (3 : Int32)] [])
        refine Goes.step ?_ (fun _ k => XS.iinc X46.here hx rfl (hb hby d7_75) rfl (l' := #[rv sy, iv (4 : Int32), rv co, rv ob1, iv ((0 : Int32) + (1 : Int32)), .val (.long ((0 : Int64) + (1 : Int64))), .second, iv (3 : Int32)]) rfl k)
        show Goes p e below _ (sF T46 m 78 #[rv sy, iv (4 : Int32), rv co, rv ob1, iv ((0 : Int32) + (1 : Int32)), .val (.long ((0 : Int64) + (1 : Int64))), .second, iv (3 : Int32)] [])
        rw [show ((0 : Int32) + (1 : Int32)) = (1 : Int32) from by decide]
        show Goes p e below _ (sF T46 m 78 #[rv sy, iv (4 : Int32), rv co, rv ob1, iv (1 : Int32), .val (.long ((0 : Int64) + (1 : Int64))), .second, iv (3 : Int32)] [])
        refine Goes.step ?_ (fun _ k => XS.aloadN X46.here hx rfl (hb hby d7_78) rfl rfl k)
        show Goes p e below _ (sF T46 m 79 #[rv sy, iv (4 : Int32), rv co, rv ob1, iv (1 : Int32), .val (.long ((0 : Int64) + (1 : Int64))), .second, iv (3 : Int32)] [(.ref ob1)])
        refine Goes.step ?_ (fun _ k => XS.iload X46.here hx rfl (hb hby d7_79) rfl  k)
        show Goes p e below _ (sF T46 m 81 #[rv sy, iv (4 : Int32), rv co, rv ob1, iv (1 : Int32), .val (.long ((0 : Int64) + (1 : Int64))), .second, iv (3 : Int32)] [(.int (3 : Int32)), (.ref ob1)])
        refine Goes.step ?_ (fun _ k => XS.iconst X46.here hx rfl (hb hby d7_81) k)
        show Goes p e below _ (sF T46 m 82 #[rv sy, iv (4 : Int32), rv co, rv ob1, iv (1 : Int32), .val (.long ((0 : Int64) + (1 : Int64))), .second, iv (3 : Int32)] [(.int (1 : Int32)), (.int (3 : Int32)), (.ref ob1)])
        refine Goes.step ?_ (fun _ k => XS.iadd X46.here hx rfl (hb hby d7_82) rfl k)
        show Goes p e below _ (sF T46 m 83 #[rv sy, iv (4 : Int32), rv co, rv ob1, iv (1 : Int32), .val (.long ((0 : Int64) + (1 : Int64))), .second, iv (3 : Int32)] [(.int ((3 : Int32) + (1 : Int32))), (.ref ob1)])
        rw [show ((3 : Int32) + (1 : Int32)) = (4 : Int32) from by decide]
        show Goes p e below _ (sF T46 m 83 #[rv sy, iv (4 : Int32), rv co, rv ob1, iv (1 : Int32), .val (.long ((0 : Int64) + (1 : Int64))), .second, iv (3 : Int32)] [(.int (4 : Int32)), (.ref ob1)])
        refine Goes.step ?_ (fun _ k => XS.iload X46.here hx rfl (hb hby d7_83) rfl  k)
        show Goes p e below _ (sF T46 m 85 #[rv sy, iv (4 : Int32), rv co, rv ob1, iv (1 : Int32), .val (.long ((0 : Int64) + (1 : Int64))), .second, iv (3 : Int32)] [(.int (1 : Int32)), (.int (4 : Int32)), (.ref ob1)])
        obtain ⟨cl48, Ar48, q48, S48, N_48, H48, G48⟩ := id V_44
        have hin49 : ¬ ((4 : Int32) < 0 ∨ cl48.slots.size ≤ ((4 : Int32)).toNatClampNeg) := inb_of S48 ⟨by decide, by decide⟩
        obtain ⟨T49, h49, X49, e49, W49, st49⟩ := stI X46 hx hZ e46 Ar48 (j := (4 : Int32)) hin49 (g := (mkF m 85 #[rv sy, iv (4 : Int32), rv co, rv ob1, iv (1 : Int32), .val (.long ((0 : Int64) + (1 : Int64))), .second, iv (3 : Int32)] [(.int (1 : Int32)), (.int (4 : Int32)), (.ref ob1)])) rfl rfl (hb hby d7_85)
        have V_49 : Arv Z h49 ob1 k1 .int (5 : Int32) [(.int (-1 : Int32)), (.int (0 : Int32)), (.int (1 : Int32)), (.int (0 : Int32)), (.int (1 : Int32))] (.int (0 : Int32)) := Arv.set Ar48 q48 S48 N_48 H48 G48 rfl W49 4 rfl (Nat.le_of_ble_eq_true rfl)
        have Zs49 : n0 ≤ h49.size := Nat.le_trans Zs44 (Keep.of_wr W49).1
        have N49 := Fr.snoc X49 N46 g_ob1
        refine Goes.step ?_ st49
        show Goes p e below _ (sF T49 m 86 #[rv sy, iv (4 : Int32), rv co, rv ob1, iv (1 : Int32), .val (.long ((0 : Int64) + (1 : Int64))), .second, iv (3 : Int32)] [])
        refine Goes.step ?_ (fun _ k => XS.iinc X49.here hx rfl (hb hby d7_86) rfl (l' := #[rv sy, iv (4 : Int32), rv co, rv ob1, iv (1 : Int32), .val (.long ((0 : Int64) + (1 : Int64))), .second, iv ((3 : Int32) + (1 : Int32))]) rfl k)
        show Goes p e below _ (sF T49 m 89 #[rv sy, iv (4 : Int32), rv co, rv ob1, iv (1 : Int32), .val (.long ((0 : Int64) + (1 : Int64))), .second, iv ((3 : Int32) + (1 : Int32))] [])
        rw [show ((3 : Int32) + (1 : Int32)) = (4 : Int32) from by decide]
        show Goes p e below _ (sF T49 m 89 #[rv sy, iv (4 : Int32), rv co, rv ob1, iv (1 : Int32), .val (.long ((0 : Int64) + (1 : Int64))), .second, iv (4 : Int32)] [])
        refine Goes.step ?_ (fun _ k => XS.goto X49.here hx rfl (pc0 := 89) (pc' := 19) rfl (hb hby d7_89) (by decide) (by decide) k)
        show Goes p e below _ (sF T49 m 19 #[rv sy, iv (4 : Int32), rv co, rv ob1, iv (1 : Int32), .val (.long ((0 : Int64) + (1 : Int64))), .second, iv (4 : Int32)] [])
        refine Goes.step ?_ (fun _ k => XS.iload X49.here hx rfl (hb hby d7_19) rfl  k)
        show Goes p e below _ (sF T49 m 21 #[rv sy, iv (4 : Int32), rv co, rv ob1, iv (1 : Int32), .val (.long ((0 : Int64) + (1 : Int64))), .second, iv (4 : Int32)] [(.int (4 : Int32))])
        refine Goes.step ?_ (fun _ k => XS.iloadN X49.here hx rfl (hb hby d7_21) rfl  k)
        show Goes p e below _ (sF T49 m 22 #[rv sy, iv (4 : Int32), rv co, rv ob1, iv (1 : Int32), .val (.long ((0 : Int64) + (1 : Int64))), .second, iv (4 : Int32)] [(.int (4 : Int32)), (.int (4 : Int32))])
        refine Goes.step ?_ (fun _ k => XS.icmpYes X49.here hx rfl (pc0 := 22) (pc' := 92) rfl (hb hby d7_22) rfl (flt (by decide : ¬ ((4 : Int32) < (4 : Int32)))).2.1 (by decide) (by decide) k)
        show Goes p e below _ (sF T49 m 92 #[rv sy, iv (4 : Int32), rv co, rv ob1, iv (1 : Int32), .val (.long ((0 : Int64) + (1 : Int64))), .second, iv (4 : Int32)] [])
        have t2 : (lg2 b0 b1) = (1 : Int32) := by simp only [lg2]; (first | (simp [hq01_4, hq12_9, hq02_41, hq03_45]; done) | (simp_all; done) | grind)
        have t3 : (lg3 b0 b1 b2) = (0 : Int32) := by simp only [lg3]; (first | (simp [hq01_4, hq12_9, hq02_41, hq03_45]; done) | (simp_all; done) | grind)
        have t4 : (lg4 b0 b1 b2 b3) = (1 : Int32) := by simp only [lg4]; (first | (simp [hq01_4, hq12_9, hq02_41, hq03_45]; done) | (simp_all; done) | grind)
        rw [show ([(.int (-1 : Int32)), (.int (0 : Int32)), (.int (1 : Int32)), (.int (0 : Int32)), (.int (1 : Int32))] : List Value) = [(.int (-1 : Int32)), (.int (0 : Int32)), (.int (lg2 b0 b1)), (.int (lg3 b0 b1 b2)), (.int (lg4 b0 b1 b2 b3))] from by rw [t2, t3, t4]] at V_49
        have K_50 := ((((((Keep.refl h0 [co]).ext E1).wr W3 (Or.inr sz_ob1)).wr W8 (Or.inr sz_ob1)).wr W44 (Or.inr sz_ob1)).wr W49 (Or.inr sz_ob1))
        have F_co_count_51 := (((((F_count.ext E1).other W3 (Or.inl ne_co_ob1)).other W8 (Or.inl ne_co_ob1)).other W44 (Or.inl ne_co_ob1)).other W49 (Or.inl ne_co_ob1))
        have E_co_52 := (((((E_co.ext E1).wr W3).wr W8).wr W44).wr W49)
        exact bu92_5 h0 sy co ob1 k1 b0 b1 b2 b3 b4 (1 : Int32) ((0 : Int64) + (1 : Int64)) (4 : Int32) X49 hx hZ hw hby hlk hret hml hown e49 N49 Zs49 K_50 V_49 F_co_count_51 E_co_52 ne_co_ob1 g_co sz_ob1 (by decide) (by decide)
      · have hsy53 : h44[sy]? = some ({ cls := cK, slots := #[.ref pa], vm := .none } : Cell) := ((Keep.of_wr W44).2.1 _ _ hsy42 (ninS ne_sy_ob1 nin0))
        have V_pa_54 := (V_pa_38.other W44 ne_pa_ob1)
        obtain ⟨T53, L53, X53, e53, N53, st53⟩ := own_same X44 hx hZ hw hown hmd e44 N44 Zs44 hsy53 V_pa_54 (i := (0 : Int32)) (j := (3 : Int32)) (r := (0 : Int32)) ⟨by decide, by decide⟩ ⟨by decide, by decide⟩ rfl rfl (by simp [hq03_45]) rfl (g := (mkF m 67 #[rv sy, iv (4 : Int32), rv co, rv ob1, iv (0 : Int32), .val (.long ((0 : Int64) + (1 : Int64))), .second, iv (3 : Int32)] [(.int (3 : Int32)), (.int (0 : Int32)), (.ref sy)])) rfl (by rw [hml]; rfl) rfl rfl (hb hby d7_67) (by decide) (by decide) (by decide) (by decide)
        refine Goes.step ?_ st53
        show Goes p e below _ (sF T53 m 72 #[rv sy, iv (4 : Int32), rv co, rv ob1, iv (0 : Int32), .val (.long ((0 : Int64) + (1 : Int64))), .second, iv (3 : Int32)] [(.int (0 : Int32))])
        refine Goes.step ?_ (fun _ k => XS.ifYes X53.here hx rfl (pc0 := 72) (pc' := 78) rfl (hb hby d7_72) rfl ((if0 _ _).trans (teq (by decide : (0 : Int32) = (0 : Int32))).1) (by decide) (by decide) k)
        show Goes p e below _ (sF T53 m 78 #[rv sy, iv (4 : Int32), rv co, rv ob1, iv (0 : Int32), .val (.long ((0 : Int64) + (1 : Int64))), .second, iv (3 : Int32)] [])
        refine Goes.step ?_ (fun _ k => XS.aloadN X53.here hx rfl (hb hby d7_78) rfl rfl k)
        show Goes p e below _ (sF T53 m 79 #[rv sy, iv (4 : Int32), rv co, rv ob1, iv (0 : Int32), .val (.long ((0 : Int64) + (1 : Int64))), .second, iv (3 : Int32)] [(.ref ob1)])
        refine Goes.step ?_ (fun _ k => XS.iload X53.here hx rfl (hb hby d7_79) rfl  k)
        show Goes p e below _ (sF T53 m 81 #[rv sy, iv (4 : Int32), rv co, rv ob1, iv (0 : Int32), .val (.long ((0 : Int64) + (1 : Int64))), .second, iv (3 : Int32)] [(.int (3 : Int32)), (.ref ob1)])
        refine Goes.step ?_ (fun _ k => XS.iconst X53.here hx rfl (hb hby d7_81) k)
        show Goes p e below _ (sF T53 m 82 #[rv sy, iv (4 : Int32), rv co, rv ob1, iv (0 : Int32), .val (.long ((0 : Int64) + (1 : Int64))), .second, iv (3 : Int32)] [(.int (1 : Int32)), (.int (3 : Int32)), (.ref ob1)])
        refine Goes.step ?_ (fun _ k => XS.iadd X53.here hx rfl (hb hby d7_82) rfl k)
        show Goes p e below _ (sF T53 m 83 #[rv sy, iv (4 : Int32), rv co, rv ob1, iv (0 : Int32), .val (.long ((0 : Int64) + (1 : Int64))), .second, iv (3 : Int32)] [(.int ((3 : Int32) + (1 : Int32))), (.ref ob1)])
        rw [show ((3 : Int32) + (1 : Int32)) = (4 : Int32) from by decide]
        show Goes p e below _ (sF T53 m 83 #[rv sy, iv (4 : Int32), rv co, rv ob1, iv (0 : Int32), .val (.long ((0 : Int64) + (1 : Int64))), .second, iv (3 : Int32)] [(.int (4 : Int32)), (.ref ob1)])
        refine Goes.step ?_ (fun _ k => XS.iload X53.here hx rfl (hb hby d7_83) rfl  k)
        show Goes p e below _ (sF T53 m 85 #[rv sy, iv (4 : Int32), rv co, rv ob1, iv (0 : Int32), .val (.long ((0 : Int64) + (1 : Int64))), .second, iv (3 : Int32)] [(.int (0 : Int32)), (.int (4 : Int32)), (.ref ob1)])
        obtain ⟨cl55, Ar55, q55, S55, N_55, H55, G55⟩ := id V_44
        have hin56 : ¬ ((4 : Int32) < 0 ∨ cl55.slots.size ≤ ((4 : Int32)).toNatClampNeg) := inb_of S55 ⟨by decide, by decide⟩
        obtain ⟨T56, h56, X56, e56, W56, st56⟩ := stI X53 hx hZ e53 Ar55 (j := (4 : Int32)) hin56 (g := (mkF m 85 #[rv sy, iv (4 : Int32), rv co, rv ob1, iv (0 : Int32), .val (.long ((0 : Int64) + (1 : Int64))), .second, iv (3 : Int32)] [(.int (0 : Int32)), (.int (4 : Int32)), (.ref ob1)])) rfl rfl (hb hby d7_85)
        have V_56 : Arv Z h56 ob1 k1 .int (5 : Int32) [(.int (-1 : Int32)), (.int (0 : Int32)), (.int (1 : Int32)), (.int (0 : Int32)), (.int (0 : Int32))] (.int (0 : Int32)) := Arv.set Ar55 q55 S55 N_55 H55 G55 rfl W56 4 rfl (Nat.le_of_ble_eq_true rfl)
        have Zs56 : n0 ≤ h56.size := Nat.le_trans Zs44 (Keep.of_wr W56).1
        have N56 := Fr.snoc X56 N53 g_ob1
        refine Goes.step ?_ st56
        show Goes p e below _ (sF T56 m 86 #[rv sy, iv (4 : Int32), rv co, rv ob1, iv (0 : Int32), .val (.long ((0 : Int64) + (1 : Int64))), .second, iv (3 : Int32)] [])
        refine Goes.step ?_ (fun _ k => XS.iinc X56.here hx rfl (hb hby d7_86) rfl (l' := #[rv sy, iv (4 : Int32), rv co, rv ob1, iv (0 : Int32), .val (.long ((0 : Int64) + (1 : Int64))), .second, iv ((3 : Int32) + (1 : Int32))]) rfl k)
        show Goes p e below _ (sF T56 m 89 #[rv sy, iv (4 : Int32), rv co, rv ob1, iv (0 : Int32), .val (.long ((0 : Int64) + (1 : Int64))), .second, iv ((3 : Int32) + (1 : Int32))] [])
        rw [show ((3 : Int32) + (1 : Int32)) = (4 : Int32) from by decide]
        show Goes p e below _ (sF T56 m 89 #[rv sy, iv (4 : Int32), rv co, rv ob1, iv (0 : Int32), .val (.long ((0 : Int64) + (1 : Int64))), .second, iv (4 : Int32)] [])
        refine Goes.step ?_ (fun _ k => XS.goto X56.here hx rfl (pc0 := 89) (pc' := 19) rfl (hb hby d7_89) (by decide) (by decide) k)
        show Goes p e below _ (sF T56 m 19 #[rv sy, iv (4 : Int32), rv co, rv ob1, iv (0 : Int32), .val (.long ((0 : Int64) + (1 : Int64))), .second, iv (4 : Int32)] [])
        refine Goes.step ?_ (fun _ k => XS.iload X56.here hx rfl (hb hby d7_19) rfl  k)
        show Goes p e below _ (sF T56 m 21 #[rv sy, iv (4 : Int32), rv co, rv ob1, iv (0 : Int32), .val (.long ((0 : Int64) + (1 : Int64))), .second, iv (4 : Int32)] [(.int (4 : Int32))])
        refine Goes.step ?_ (fun _ k => XS.iloadN X56.here hx rfl (hb hby d7_21) rfl  k)
        show Goes p e below _ (sF T56 m 22 #[rv sy, iv (4 : Int32), rv co, rv ob1, iv (0 : Int32), .val (.long ((0 : Int64) + (1 : Int64))), .second, iv (4 : Int32)] [(.int (4 : Int32)), (.int (4 : Int32))])
        refine Goes.step ?_ (fun _ k => XS.icmpYes X56.here hx rfl (pc0 := 22) (pc' := 92) rfl (hb hby d7_22) rfl (flt (by decide : ¬ ((4 : Int32) < (4 : Int32)))).2.1 (by decide) (by decide) k)
        show Goes p e below _ (sF T56 m 92 #[rv sy, iv (4 : Int32), rv co, rv ob1, iv (0 : Int32), .val (.long ((0 : Int64) + (1 : Int64))), .second, iv (4 : Int32)] [])
        have t2 : (lg2 b0 b1) = (1 : Int32) := by simp only [lg2]; (first | (simp [hq01_4, hq12_9, hq02_41, hq03_45]; done) | (simp_all; done) | grind)
        have t3 : (lg3 b0 b1 b2) = (0 : Int32) := by simp only [lg3]; (first | (simp [hq01_4, hq12_9, hq02_41, hq03_45]; done) | (simp_all; done) | grind)
        have t4 : (lg4 b0 b1 b2 b3) = (0 : Int32) := by simp only [lg4]; (first | (simp [hq01_4, hq12_9, hq02_41, hq03_45]; done) | (simp_all; done) | grind)
        rw [show ([(.int (-1 : Int32)), (.int (0 : Int32)), (.int (1 : Int32)), (.int (0 : Int32)), (.int (0 : Int32))] : List Value) = [(.int (-1 : Int32)), (.int (0 : Int32)), (.int (lg2 b0 b1)), (.int (lg3 b0 b1 b2)), (.int (lg4 b0 b1 b2 b3))] from by rw [t2, t3, t4]] at V_56
        have K_57 := ((((((Keep.refl h0 [co]).ext E1).wr W3 (Or.inr sz_ob1)).wr W8 (Or.inr sz_ob1)).wr W44 (Or.inr sz_ob1)).wr W56 (Or.inr sz_ob1))
        have F_co_count_58 := (((((F_count.ext E1).other W3 (Or.inl ne_co_ob1)).other W8 (Or.inl ne_co_ob1)).other W44 (Or.inl ne_co_ob1)).other W56 (Or.inl ne_co_ob1))
        have E_co_59 := (((((E_co.ext E1).wr W3).wr W8).wr W44).wr W56)
        exact bu92_5 h0 sy co ob1 k1 b0 b1 b2 b3 b4 (0 : Int32) ((0 : Int64) + (1 : Int64)) (4 : Int32) X56 hx hZ hw hby hlk hret hml hown e56 N56 Zs56 K_57 V_56 F_co_count_58 E_co_59 ne_co_ob1 g_co sz_ob1 (by decide) (by decide)
  · have hsy60 : h3[sy]? = some ({ cls := cK, slots := #[.ref pa], vm := .none } : Cell) := ((Keep.of_wr W3).2.1 _ _ (E1.2 _ _ hsy) (ninS ne_sy_ob1 nin0))
    have V_pa_61 := ((V_pa.ext E1).other W3 ne_pa_ob1)
    obtain ⟨T60, L60, X60, e60, N60, st60⟩ := own_same X3 hx hZ hw hown hmd e3 N3 Zs3 hsy60 V_pa_61 (i := (0 : Int32)) (j := (1 : Int32)) (r := (0 : Int32)) ⟨by decide, by decide⟩ ⟨by decide, by decide⟩ rfl rfl (by simp [hq01_4]) rfl (g := (mkF m 67 #[rv sy, iv (4 : Int32), rv co, rv ob1, iv (0 : Int32), .val (.long (0 : Int64)), .second, iv (1 : Int32)] [(.int (1 : Int32)), (.int (0 : Int32)), (.ref sy)])) rfl (by rw [hml]; rfl) rfl rfl (hb hby d7_67) (by decide) (by decide) (by decide) (by decide)
    refine Goes.step ?_ st60
    show Goes p e below _ (sF T60 m 72 #[rv sy, iv (4 : Int32), rv co, rv ob1, iv (0 : Int32), .val (.long (0 : Int64)), .second, iv (1 : Int32)] [(.int (0 : Int32))])
    refine Goes.step ?_ (fun _ k => XS.ifYes X60.here hx rfl (pc0 := 72) (pc' := 78) rfl (hb hby d7_72) rfl ((if0 _ _).trans (teq (by decide : (0 : Int32) = (0 : Int32))).1) (by decide) (by decide) k)
    show Goes p e below _ (sF T60 m 78 #[rv sy, iv (4 : Int32), rv co, rv ob1, iv (0 : Int32), .val (.long (0 : Int64)), .second, iv (1 : Int32)] [])
    refine Goes.step ?_ (fun _ k => XS.aloadN X60.here hx rfl (hb hby d7_78) rfl rfl k)
    show Goes p e below _ (sF T60 m 79 #[rv sy, iv (4 : Int32), rv co, rv ob1, iv (0 : Int32), .val (.long (0 : Int64)), .second, iv (1 : Int32)] [(.ref ob1)])
    refine Goes.step ?_ (fun _ k => XS.iload X60.here hx rfl (hb hby d7_79) rfl  k)
    show Goes p e below _ (sF T60 m 81 #[rv sy, iv (4 : Int32), rv co, rv ob1, iv (0 : Int32), .val (.long (0 : Int64)), .second, iv (1 : Int32)] [(.int (1 : Int32)), (.ref ob1)])
    refine Goes.step ?_ (fun _ k => XS.iconst X60.here hx rfl (hb hby d7_81) k)
    show Goes p e below _ (sF T60 m 82 #[rv sy, iv (4 : Int32), rv co, rv ob1, iv (0 : Int32), .val (.long (0 : Int64)), .second, iv (1 : Int32)] [(.int (1 : Int32)), (.int (1 : Int32)), (.ref ob1)])
    refine Goes.step ?_ (fun _ k => XS.iadd X60.here hx rfl (hb hby d7_82) rfl k)
    show Goes p e below _ (sF T60 m 83 #[rv sy, iv (4 : Int32), rv co, rv ob1, iv (0 : Int32), .val (.long (0 : Int64)), .second, iv (1 : Int32)] [(.int ((1 : Int32) + (1 : Int32))), (.ref ob1)])
    rw [show ((1 : Int32) + (1 : Int32)) = (2 : Int32) from by decide]
    show Goes p e below _ (sF T60 m 83 #[rv sy, iv (4 : Int32), rv co, rv ob1, iv (0 : Int32), .val (.long (0 : Int64)), .second, iv (1 : Int32)] [(.int (2 : Int32)), (.ref ob1)])
    refine Goes.step ?_ (fun _ k => XS.iload X60.here hx rfl (hb hby d7_83) rfl  k)
    show Goes p e below _ (sF T60 m 85 #[rv sy, iv (4 : Int32), rv co, rv ob1, iv (0 : Int32), .val (.long (0 : Int64)), .second, iv (1 : Int32)] [(.int (0 : Int32)), (.int (2 : Int32)), (.ref ob1)])
    obtain ⟨cl62, Ar62, q62, S62, N_62, H62, G62⟩ := id V_3
    have hin63 : ¬ ((2 : Int32) < 0 ∨ cl62.slots.size ≤ ((2 : Int32)).toNatClampNeg) := inb_of S62 ⟨by decide, by decide⟩
    obtain ⟨T63, h63, X63, e63, W63, st63⟩ := stI X60 hx hZ e60 Ar62 (j := (2 : Int32)) hin63 (g := (mkF m 85 #[rv sy, iv (4 : Int32), rv co, rv ob1, iv (0 : Int32), .val (.long (0 : Int64)), .second, iv (1 : Int32)] [(.int (0 : Int32)), (.int (2 : Int32)), (.ref ob1)])) rfl rfl (hb hby d7_85)
    have V_63 : Arv Z h63 ob1 k1 .int (5 : Int32) [(.int (-1 : Int32)), (.int (0 : Int32)), (.int (0 : Int32)), (.int (0 : Int32)), (.int (0 : Int32))] (.int (0 : Int32)) := Arv.set Ar62 q62 S62 N_62 H62 G62 rfl W63 2 rfl (Nat.le_of_ble_eq_true rfl)
    have Zs63 : n0 ≤ h63.size := Nat.le_trans Zs3 (Keep.of_wr W63).1
    have N63 := Fr.snoc X63 N60 g_ob1
    refine Goes.step ?_ st63
    show Goes p e below _ (sF T63 m 86 #[rv sy, iv (4 : Int32), rv co, rv ob1, iv (0 : Int32), .val (.long (0 : Int64)), .second, iv (1 : Int32)] [])
    refine Goes.step ?_ (fun _ k => XS.iinc X63.here hx rfl (hb hby d7_86) rfl (l' := #[rv sy, iv (4 : Int32), rv co, rv ob1, iv (0 : Int32), .val (.long (0 : Int64)), .second, iv ((1 : Int32) + (1 : Int32))]) rfl k)
    show Goes p e below _ (sF T63 m 89 #[rv sy, iv (4 : Int32), rv co, rv ob1, iv (0 : Int32), .val (.long (0 : Int64)), .second, iv ((1 : Int32) + (1 : Int32))] [])
    rw [show ((1 : Int32) + (1 : Int32)) = (2 : Int32) from by decide]
    show Goes p e below _ (sF T63 m 89 #[rv sy, iv (4 : Int32), rv co, rv ob1, iv (0 : Int32), .val (.long (0 : Int64)), .second, iv (2 : Int32)] [])
    refine Goes.step ?_ (fun _ k => XS.goto X63.here hx rfl (pc0 := 89) (pc' := 19) rfl (hb hby d7_89) (by decide) (by decide) k)
    show Goes p e below _ (sF T63 m 19 #[rv sy, iv (4 : Int32), rv co, rv ob1, iv (0 : Int32), .val (.long (0 : Int64)), .second, iv (2 : Int32)] [])
    refine Goes.step ?_ (fun _ k => XS.iload X63.here hx rfl (hb hby d7_19) rfl  k)
    show Goes p e below _ (sF T63 m 21 #[rv sy, iv (4 : Int32), rv co, rv ob1, iv (0 : Int32), .val (.long (0 : Int64)), .second, iv (2 : Int32)] [(.int (2 : Int32))])
    refine Goes.step ?_ (fun _ k => XS.iloadN X63.here hx rfl (hb hby d7_21) rfl  k)
    show Goes p e below _ (sF T63 m 22 #[rv sy, iv (4 : Int32), rv co, rv ob1, iv (0 : Int32), .val (.long (0 : Int64)), .second, iv (2 : Int32)] [(.int (4 : Int32)), (.int (2 : Int32))])
    refine Goes.step ?_ (fun _ k => XS.icmpNo X63.here hx rfl (hb hby d7_22) rfl (tlt (by decide : (2 : Int32) < (4 : Int32))).2.1 k)
    show Goes p e below _ (sF T63 m 25 #[rv sy, iv (4 : Int32), rv co, rv ob1, iv (0 : Int32), .val (.long (0 : Int64)), .second, iv (2 : Int32)] [])
    refine Goes.step ?_ (fun _ k => XS.iload X63.here hx rfl (hb hby d7_25) rfl  k)
    show Goes p e below _ (sF T63 m 27 #[rv sy, iv (4 : Int32), rv co, rv ob1, iv (0 : Int32), .val (.long (0 : Int64)), .second, iv (2 : Int32)] [(.int (0 : Int32))])
    refine Goes.step ?_ (fun _ k => XS.ifYes X63.here hx rfl (pc0 := 27) (pc' := 58) rfl (hb hby d7_27) rfl ((if0 _ _).trans (flt (by decide : ¬ ((0 : Int32) < (0 : Int32)))).2.2.2) (by decide) (by decide) k)
    show Goes p e below _ (sF T63 m 58 #[rv sy, iv (4 : Int32), rv co, rv ob1, iv (0 : Int32), .val (.long (0 : Int64)), .second, iv (2 : Int32)] [])
    refine Goes.step ?_ (fun _ k => XS.iload X63.here hx rfl (hb hby d7_58) rfl  k)
    show Goes p e below _ (sF T63 m 60 #[rv sy, iv (4 : Int32), rv co, rv ob1, iv (0 : Int32), .val (.long (0 : Int64)), .second, iv (2 : Int32)] [(.int (0 : Int32))])
    refine Goes.step ?_ (fun _ k => XS.ifNo X63.here hx rfl (hb hby d7_60) rfl ((if0 _ _).trans (flt (by decide : ¬ ((0 : Int32) < (0 : Int32)))).2.2.1) k)
    show Goes p e below _ (sF T63 m 63 #[rv sy, iv (4 : Int32), rv co, rv ob1, iv (0 : Int32), .val (.long (0 : Int64)), .second, iv (2 : Int32)] [])
    refine Goes.step ?_ (fun _ k => XS.aloadN X63.here hx rfl (hb hby d7_63) rfl rfl k)
    show Goes p e below _ (sF T63 m 64 #[rv sy, iv (4 : Int32), rv co, rv ob1, iv (0 : Int32), .val (.long (0 : Int64)), .second, iv (2 : Int32)] [(.ref sy)])
    refine Goes.step ?_ (fun _ k => XS.iconst X63.here hx rfl (hb hby d7_64) k)
    show Goes p e below _ (sF T63 m 65 #[rv sy, iv (4 : Int32), rv co, rv ob1, iv (0 : Int32), .val (.long (0 : Int64)), .second, iv (2 : Int32)] [(.int (0 : Int32)), (.ref sy)])
    refine Goes.step ?_ (fun _ k => XS.iload X63.here hx rfl (hb hby d7_65) rfl  k)
    show Goes p e below _ (sF T63 m 67 #[rv sy, iv (4 : Int32), rv co, rv ob1, iv (0 : Int32), .val (.long (0 : Int64)), .second, iv (2 : Int32)] [(.int (2 : Int32)), (.int (0 : Int32)), (.ref sy)])
    by_cases hq02_64 : b0 = b2
    · have hsy65 : h63[sy]? = some ({ cls := cK, slots := #[.ref pa], vm := .none } : Cell) := ((Keep.of_wr W63).2.1 _ _ hsy60 (ninS ne_sy_ob1 nin0))
      have V_pa_66 := (V_pa_61.other W63 ne_pa_ob1)
      obtain ⟨T65, L65, X65, e65, N65, st65⟩ := own_same X63 hx hZ hw hown hmd e63 N63 Zs63 hsy65 V_pa_66 (i := (0 : Int32)) (j := (2 : Int32)) (r := (1 : Int32)) ⟨by decide, by decide⟩ ⟨by decide, by decide⟩ rfl rfl (by simp [hq02_64]) rfl (g := (mkF m 67 #[rv sy, iv (4 : Int32), rv co, rv ob1, iv (0 : Int32), .val (.long (0 : Int64)), .second, iv (2 : Int32)] [(.int (2 : Int32)), (.int (0 : Int32)), (.ref sy)])) rfl (by rw [hml]; rfl) rfl rfl (hb hby d7_67) (by decide) (by decide) (by decide) (by decide)
      refine Goes.step ?_ st65
      show Goes p e below _ (sF T65 m 72 #[rv sy, iv (4 : Int32), rv co, rv ob1, iv (0 : Int32), .val (.long (0 : Int64)), .second, iv (2 : Int32)] [(.int (1 : Int32))])
      refine Goes.step ?_ (fun _ k => XS.ifNo X65.here hx rfl (hb hby d7_72) rfl ((if0 _ _).trans (feq (by decide : ¬ ((1 : Int32) = (0 : Int32)))).1) k)
      show Goes p e below _ (sF T65 m 75 #[rv sy, iv (4 : Int32), rv co, rv ob1, iv (0 : Int32), .val (.long (0 : Int64)), .second, iv (2 : Int32)] [])
      refine Goes.step ?_ (fun _ k => XS.iinc X65.here hx rfl (hb hby d7_75) rfl (l' := #[rv sy, iv (4 : Int32), rv co, rv ob1, iv ((0 : Int32) + (1 : Int32)), .val (.long (0 : Int64)), .second, iv (2 : Int32)]) rfl k)
      show Goes p e below _ (sF T65 m 78 #[rv sy, iv (4 : Int32), rv co, rv ob1, iv ((0 : Int32) + (1 : Int32)), .val (.long (0 : Int64)), .second, iv (2 : Int32)] [])
      rw [show ((0 : Int32) + (1 : Int32)) = (1 : Int32) from by decide]
      show Goes p e below _ (sF T65 m 78 #[rv sy, iv (4 : Int32), rv co, rv ob1, iv (1 : Int32), .val (.long (0 : Int64)), .second, iv (2 : Int32)] [])
      refine Goes.step ?_ (fun _ k => XS.aloadN X65.here hx rfl (hb hby d7_78) rfl rfl k)
      show Goes p e below _ (sF T65 m 79 #[rv sy, iv (4 : Int32), rv co, rv ob1, iv (1 : Int32), .val (.long (0 : Int64)), .second, iv (2 : Int32)] [(.ref ob1)])
      refine Goes.step ?_ (fun _ k => XS.iload X65.here hx rfl (hb hby d7_79) rfl  k)
      show Goes p e below _ (sF T65 m 81 #[rv sy, iv (4 : Int32), rv co, rv ob1, iv (1 : Int32), .val (.long (0 : Int64)), .second, iv (2 : Int32)] [(.int (2 : Int32)), (.ref ob1)])
      refine Goes.step ?_ (fun _ k => XS.iconst X65.here hx rfl (hb hby d7_81) k)
      show Goes p e below _ (sF T65 m 82 #[rv sy, iv (4 : Int32), rv co, rv ob1, iv (1 : Int32), .val (.long (0 : Int64)), .second, iv (2 : Int32)] [(.int (1 : Int32)), (.int (2 : Int32)), (.ref ob1)])
      refine Goes.step ?_ (fun _ k => XS.iadd X65.here hx rfl (hb hby d7_82) rfl k)
      show Goes p e below _ (sF T65 m 83 #[rv sy, iv (4 : Int32), rv co, rv ob1, iv (1 : Int32), .val (.long (0 : Int64)), .second, iv (2 : Int32)] [(.int ((2 : Int32) + (1 : Int32))), (.ref ob1)])
      rw [show ((2 : Int32) + (1 : Int32)) = (3 : Int32) from by decide]
      show Goes p e below _ (sF T65 m 83 #[rv sy, iv (4 : Int32), rv co, rv ob1, iv (1 : Int32), .val (.long (0 : Int64)), .second, iv (2 : Int32)] [(.int (3 : Int32)), (.ref ob1)])
      refine Goes.step ?_ (fun _ k => XS.iload X65.here hx rfl (hb hby d7_83) rfl  k)
      show Goes p e below _ (sF T65 m 85 #[rv sy, iv (4 : Int32), rv co, rv ob1, iv (1 : Int32), .val (.long (0 : Int64)), .second, iv (2 : Int32)] [(.int (1 : Int32)), (.int (3 : Int32)), (.ref ob1)])
      obtain ⟨cl67, Ar67, q67, S67, N_67, H67, G67⟩ := id V_63
      have hin68 : ¬ ((3 : Int32) < 0 ∨ cl67.slots.size ≤ ((3 : Int32)).toNatClampNeg) := inb_of S67 ⟨by decide, by decide⟩
      obtain ⟨T68, h68, X68, e68, W68, st68⟩ := stI X65 hx hZ e65 Ar67 (j := (3 : Int32)) hin68 (g := (mkF m 85 #[rv sy, iv (4 : Int32), rv co, rv ob1, iv (1 : Int32), .val (.long (0 : Int64)), .second, iv (2 : Int32)] [(.int (1 : Int32)), (.int (3 : Int32)), (.ref ob1)])) rfl rfl (hb hby d7_85)
      have V_68 : Arv Z h68 ob1 k1 .int (5 : Int32) [(.int (-1 : Int32)), (.int (0 : Int32)), (.int (0 : Int32)), (.int (1 : Int32)), (.int (0 : Int32))] (.int (0 : Int32)) := Arv.set Ar67 q67 S67 N_67 H67 G67 rfl W68 3 rfl (Nat.le_of_ble_eq_true rfl)
      have Zs68 : n0 ≤ h68.size := Nat.le_trans Zs63 (Keep.of_wr W68).1
      have N68 := Fr.snoc X68 N65 g_ob1
      refine Goes.step ?_ st68
      show Goes p e below _ (sF T68 m 86 #[rv sy, iv (4 : Int32), rv co, rv ob1, iv (1 : Int32), .val (.long (0 : Int64)), .second, iv (2 : Int32)] [])
      refine Goes.step ?_ (fun _ k => XS.iinc X68.here hx rfl (hb hby d7_86) rfl (l' := #[rv sy, iv (4 : Int32), rv co, rv ob1, iv (1 : Int32), .val (.long (0 : Int64)), .second, iv ((2 : Int32) + (1 : Int32))]) rfl k)
      show Goes p e below _ (sF T68 m 89 #[rv sy, iv (4 : Int32), rv co, rv ob1, iv (1 : Int32), .val (.long (0 : Int64)), .second, iv ((2 : Int32) + (1 : Int32))] [])
      rw [show ((2 : Int32) + (1 : Int32)) = (3 : Int32) from by decide]
      show Goes p e below _ (sF T68 m 89 #[rv sy, iv (4 : Int32), rv co, rv ob1, iv (1 : Int32), .val (.long (0 : Int64)), .second, iv (3 : Int32)] [])
      refine Goes.step ?_ (fun _ k => XS.goto X68.here hx rfl (pc0 := 89) (pc' := 19) rfl (hb hby d7_89) (by decide) (by decide) k)
      show Goes p e below _ (sF T68 m 19 #[rv sy, iv (4 : Int32), rv co, rv ob1, iv (1 : Int32), .val (.long (0 : Int64)), .second, iv (3 : Int32)] [])
      refine Goes.step ?_ (fun _ k => XS.iload X68.here hx rfl (hb hby d7_19) rfl  k)
      show Goes p e below _ (sF T68 m 21 #[rv sy, iv (4 : Int32), rv co, rv ob1, iv (1 : Int32), .val (.long (0 : Int64)), .second, iv (3 : Int32)] [(.int (3 : Int32))])
      refine Goes.step ?_ (fun _ k => XS.iloadN X68.here hx rfl (hb hby d7_21) rfl  k)
      show Goes p e below _ (sF T68 m 22 #[rv sy, iv (4 : Int32), rv co, rv ob1, iv (1 : Int32), .val (.long (0 : Int64)), .second, iv (3 : Int32)] [(.int (4 : Int32)), (.int (3 : Int32))])
      refine Goes.step ?_ (fun _ k => XS.icmpNo X68.here hx rfl (hb hby d7_22) rfl (tlt (by decide : (3 : Int32) < (4 : Int32))).2.1 k)
      show Goes p e below _ (sF T68 m 25 #[rv sy, iv (4 : Int32), rv co, rv ob1, iv (1 : Int32), .val (.long (0 : Int64)), .second, iv (3 : Int32)] [])
      refine Goes.step ?_ (fun _ k => XS.iload X68.here hx rfl (hb hby d7_25) rfl  k)
      show Goes p e below _ (sF T68 m 27 #[rv sy, iv (4 : Int32), rv co, rv ob1, iv (1 : Int32), .val (.long (0 : Int64)), .second, iv (3 : Int32)] [(.int (1 : Int32))])
      refine Goes.step ?_ (fun _ k => XS.ifNo X68.here hx rfl (hb hby d7_27) rfl ((if0 _ _).trans (tlt (by decide : (0 : Int32) < (1 : Int32))).2.2.2) k)
      show Goes p e below _ (sF T68 m 30 #[rv sy, iv (4 : Int32), rv co, rv ob1, iv (1 : Int32), .val (.long (0 : Int64)), .second, iv (3 : Int32)] [])
      refine Goes.step ?_ (fun _ k => XS.aloadN X68.here hx rfl (hb hby d7_30) rfl rfl k)
      show Goes p e below _ (sF T68 m 31 #[rv sy, iv (4 : Int32), rv co, rv ob1, iv (1 : Int32), .val (.long (0 : Int64)), .second, iv (3 : Int32)] [(.ref sy)])
      refine Goes.step ?_ (fun _ k => XS.iload X68.here hx rfl (hb hby d7_31) rfl  k)
      show Goes p e below _ (sF T68 m 33 #[rv sy, iv (4 : Int32), rv co, rv ob1, iv (1 : Int32), .val (.long (0 : Int64)), .second, iv (3 : Int32)] [(.int (1 : Int32)), (.ref sy)])
      refine Goes.step ?_ (fun _ k => XS.iload X68.here hx rfl (hb hby d7_33) rfl  k)
      show Goes p e below _ (sF T68 m 35 #[rv sy, iv (4 : Int32), rv co, rv ob1, iv (1 : Int32), .val (.long (0 : Int64)), .second, iv (3 : Int32)] [(.int (3 : Int32)), (.int (1 : Int32)), (.ref sy)])
      by_cases hq13_69 : b1 = b3
      · have hsy70 : h68[sy]? = some ({ cls := cK, slots := #[.ref pa], vm := .none } : Cell) := ((Keep.of_wr W68).2.1 _ _ hsy65 (ninS ne_sy_ob1 nin0))
        have V_pa_71 := (V_pa_66.other W68 ne_pa_ob1)
        obtain ⟨T70, L70, X70, e70, N70, st70⟩ := own_same X68 hx hZ hw hown hmd e68 N68 Zs68 hsy70 V_pa_71 (i := (1 : Int32)) (j := (3 : Int32)) (r := (1 : Int32)) ⟨by decide, by decide⟩ ⟨by decide, by decide⟩ rfl rfl (by simp [hq13_69]) rfl (g := (mkF m 35 #[rv sy, iv (4 : Int32), rv co, rv ob1, iv (1 : Int32), .val (.long (0 : Int64)), .second, iv (3 : Int32)] [(.int (3 : Int32)), (.int (1 : Int32)), (.ref sy)])) rfl (by rw [hml]; rfl) rfl rfl (hb hby d7_35) (by decide) (by decide) (by decide) (by decide)
        refine Goes.step ?_ st70
        show Goes p e below _ (sF T70 m 40 #[rv sy, iv (4 : Int32), rv co, rv ob1, iv (1 : Int32), .val (.long (0 : Int64)), .second, iv (3 : Int32)] [(.int (1 : Int32))])
        refine Goes.step ?_ (fun _ k => XS.ifYes X70.here hx rfl (pc0 := 40) (pc' := 58) rfl (hb hby d7_40) rfl ((if0 _ _).trans (feq (by decide : ¬ ((1 : Int32) = (0 : Int32)))).2) (by decide) (by decide) k)
        show Goes p e below _ (sF T70 m 58 #[rv sy, iv (4 : Int32), rv co, rv ob1, iv (1 : Int32), .val (.long (0 : Int64)), .second, iv (3 : Int32)] [])
        refine Goes.step ?_ (fun _ k => XS.iload X70.here hx rfl (hb hby d7_58) rfl  k)
        show Goes p e below _ (sF T70 m 60 #[rv sy, iv (4 : Int32), rv co, rv ob1, iv (1 : Int32), .val (.long (0 : Int64)), .second, iv (3 : Int32)] [(.int (1 : Int32))])
        refine Goes.step ?_ (fun _ k => XS.ifYes X70.here hx rfl (pc0 := 60) (pc' := 75) rfl (hb hby d7_60) rfl ((if0 _ _).trans (tlt (by decide : (0 : Int32) < (1 : Int32))).2.2.1) (by decide) (by decide) k)
        show Goes p e below _ (sF T70 m 75 #[rv sy, iv (4 : Int32), rv co, rv ob1, iv (1 : Int32), .val (.long (0 : Int64)), .second, iv (3 : Int32)] [])
        refine Goes.step ?_ (fun _ k => XS.iinc X70.here hx rfl (hb hby d7_75) rfl (l' := #[rv sy, iv (4 : Int32), rv co, rv ob1, iv ((1 : Int32) + (1 : Int32)), .val (.long (0 : Int64)), .second, iv (3 : Int32)]) rfl k)
        show Goes p e below _ (sF T70 m 78 #[rv sy, iv (4 : Int32), rv co, rv ob1, iv ((1 : Int32) + (1 : Int32)), .val (.long (0 : Int64)), .second, iv (3 : Int32)] [])
        rw [show ((1 : Int32) + (1 : Int32)) = (2 : Int32) from by decide]
        show Goes p e below _ (sF T70 m 78 #[rv sy, iv (4 : Int32), rv co, rv ob1, iv (2 : Int32), .val (.long (0 : Int64)), .second, iv (3 : Int32)] [])
        refine Goes.step ?_ (fun _ k => XS.aloadN X70.here hx rfl (hb hby d7_78) rfl rfl k)
        show Goes p e below _ (sF T70 m 79 #[rv sy, iv (4 : Int32), rv co, rv ob1, iv (2 : Int32), .val (.long (0 : Int64)), .second, iv (3 : Int32)] [(.ref ob1)])
        refine Goes.step ?_ (fun _ k => XS.iload X70.here hx rfl (hb hby d7_79) rfl  k)
        show Goes p e below _ (sF T70 m 81 #[rv sy, iv (4 : Int32), rv co, rv ob1, iv (2 : Int32), .val (.long (0 : Int64)), .second, iv (3 : Int32)] [(.int (3 : Int32)), (.ref ob1)])
        refine Goes.step ?_ (fun _ k => XS.iconst X70.here hx rfl (hb hby d7_81) k)
        show Goes p e below _ (sF T70 m 82 #[rv sy, iv (4 : Int32), rv co, rv ob1, iv (2 : Int32), .val (.long (0 : Int64)), .second, iv (3 : Int32)] [(.int (1 : Int32)), (.int (3 : Int32)), (.ref ob1)])
        refine Goes.step ?_ (fun _ k => XS.iadd X70.here hx rfl (hb hby d7_82) rfl k)
        show Goes p e below _ (sF T70 m 83 #[rv sy, iv (4 : Int32), rv co, rv ob1, iv (2 : Int32), .val (.long (0 : Int64)), .second, iv (3 : Int32)] [(.int ((3 : Int32) + (1 : Int32))), (.ref ob1)])
        rw [show ((3 : Int32) + (1 : Int32)) = (4 : Int32) from by decide]
        show Goes p e below _ (sF T70 m 83 #[rv sy, iv (4 : Int32), rv co, rv ob1, iv (2 : Int32), .val (.long (0 : Int64)), .second, iv (3 : Int32)] [(.int (4 : Int32)), (.ref ob1)])
        refine Goes.step ?_ (fun _ k => XS.iload X70.here hx rfl (hb hby d7_83) rfl  k)
        show Goes p e below _ (sF T70 m 85 #[rv sy, iv (4 : Int32), rv co, rv ob1, iv (2 : Int32), .val (.long (0 : Int64)), .second, iv (3 : Int32)] [(.int (2 : Int32)), (.int (4 : Int32)), (.ref ob1)])
        obtain ⟨cl72, Ar72, q72, S72, N_72, H72, G72⟩ := id V_68
        have hin73 : ¬ ((4 : Int32) < 0 ∨ cl72.slots.size ≤ ((4 : Int32)).toNatClampNeg) := inb_of S72 ⟨by decide, by decide⟩
        obtain ⟨T73, h73, X73, e73, W73, st73⟩ := stI X70 hx hZ e70 Ar72 (j := (4 : Int32)) hin73 (g := (mkF m 85 #[rv sy, iv (4 : Int32), rv co, rv ob1, iv (2 : Int32), .val (.long (0 : Int64)), .second, iv (3 : Int32)] [(.int (2 : Int32)), (.int (4 : Int32)), (.ref ob1)])) rfl rfl (hb hby d7_85)
        have V_73 : Arv Z h73 ob1 k1 .int (5 : Int32) [(.int (-1 : Int32)), (.int (0 : Int32)), (.int (0 : Int32)), (.int (1 : Int32)), (.int (2 : Int32))] (.int (0 : Int32)) := Arv.set Ar72 q72 S72 N_72 H72 G72 rfl W73 4 rfl (Nat.le_of_ble_eq_true rfl)
        have Zs73 : n0 ≤ h73.size := Nat.le_trans Zs68 (Keep.of_wr W73).1
        have N73 := Fr.snoc X73 N70 g_ob1
        refine Goes.step ?_ st73
        show Goes p e below _ (sF T73 m 86 #[rv sy, iv (4 : Int32), rv co, rv ob1, iv (2 : Int32), .val (.long (0 : Int64)), .second, iv (3 : Int32)] [])
        refine Goes.step ?_ (fun _ k => XS.iinc X73.here hx rfl (hb hby d7_86) rfl (l' := #[rv sy, iv (4 : Int32), rv co, rv ob1, iv (2 : Int32), .val (.long (0 : Int64)), .second, iv ((3 : Int32) + (1 : Int32))]) rfl k)
        show Goes p e below _ (sF T73 m 89 #[rv sy, iv (4 : Int32), rv co, rv ob1, iv (2 : Int32), .val (.long (0 : Int64)), .second, iv ((3 : Int32) + (1 : Int32))] [])
        rw [show ((3 : Int32) + (1 : Int32)) = (4 : Int32) from by decide]
        show Goes p e below _ (sF T73 m 89 #[rv sy, iv (4 : Int32), rv co, rv ob1, iv (2 : Int32), .val (.long (0 : Int64)), .second, iv (4 : Int32)] [])
        refine Goes.step ?_ (fun _ k => XS.goto X73.here hx rfl (pc0 := 89) (pc' := 19) rfl (hb hby d7_89) (by decide) (by decide) k)
        show Goes p e below _ (sF T73 m 19 #[rv sy, iv (4 : Int32), rv co, rv ob1, iv (2 : Int32), .val (.long (0 : Int64)), .second, iv (4 : Int32)] [])
        refine Goes.step ?_ (fun _ k => XS.iload X73.here hx rfl (hb hby d7_19) rfl  k)
        show Goes p e below _ (sF T73 m 21 #[rv sy, iv (4 : Int32), rv co, rv ob1, iv (2 : Int32), .val (.long (0 : Int64)), .second, iv (4 : Int32)] [(.int (4 : Int32))])
        refine Goes.step ?_ (fun _ k => XS.iloadN X73.here hx rfl (hb hby d7_21) rfl  k)
        show Goes p e below _ (sF T73 m 22 #[rv sy, iv (4 : Int32), rv co, rv ob1, iv (2 : Int32), .val (.long (0 : Int64)), .second, iv (4 : Int32)] [(.int (4 : Int32)), (.int (4 : Int32))])
        refine Goes.step ?_ (fun _ k => XS.icmpYes X73.here hx rfl (pc0 := 22) (pc' := 92) rfl (hb hby d7_22) rfl (flt (by decide : ¬ ((4 : Int32) < (4 : Int32)))).2.1 (by decide) (by decide) k)
        show Goes p e below _ (sF T73 m 92 #[rv sy, iv (4 : Int32), rv co, rv ob1, iv (2 : Int32), .val (.long (0 : Int64)), .second, iv (4 : Int32)] [])
        have t2 : (lg2 b0 b1) = (0 : Int32) := by simp only [lg2]; (first | (simp [hq01_4, hq02_64, hq13_69]; done) | (simp_all; done) | grind)
        have t3 : (lg3 b0 b1 b2) = (1 : Int32) := by simp only [lg3]; (first | (simp [hq01_4, hq02_64, hq13_69]; done) | (simp_all; done) | grind)
        have t4 : (lg4 b0 b1 b2 b3) = (2 : Int32) := by simp only [lg4]; (first | (simp [hq01_4, hq02_64, hq13_69]; done) | (simp_all; done) | grind)
        rw [show ([(.int (-1 : Int32)), (.int (0 : Int32)), (.int (0 : Int32)), (.int (1 : Int32)), (.int (2 : Int32))] : List Value) = [(.int (-1 : Int32)), (.int (0 : Int32)), (.int (lg2 b0 b1)), (.int (lg3 b0 b1 b2)), (.int (lg4 b0 b1 b2 b3))] from by rw [t2, t3, t4]] at V_73
        have K_74 := ((((((Keep.refl h0 [co]).ext E1).wr W3 (Or.inr sz_ob1)).wr W63 (Or.inr sz_ob1)).wr W68 (Or.inr sz_ob1)).wr W73 (Or.inr sz_ob1))
        have F_co_count_75 := (((((F_count.ext E1).other W3 (Or.inl ne_co_ob1)).other W63 (Or.inl ne_co_ob1)).other W68 (Or.inl ne_co_ob1)).other W73 (Or.inl ne_co_ob1))
        have E_co_76 := (((((E_co.ext E1).wr W3).wr W63).wr W68).wr W73)
        exact bu92_5 h0 sy co ob1 k1 b0 b1 b2 b3 b4 (2 : Int32) (0 : Int64) (4 : Int32) X73 hx hZ hw hby hlk hret hml hown e73 N73 Zs73 K_74 V_73 F_co_count_75 E_co_76 ne_co_ob1 g_co sz_ob1 (by decide) (by decide)
      · have hsy77 : h68[sy]? = some ({ cls := cK, slots := #[.ref pa], vm := .none } : Cell) := ((Keep.of_wr W68).2.1 _ _ hsy65 (ninS ne_sy_ob1 nin0))
        have V_pa_78 := (V_pa_66.other W68 ne_pa_ob1)
        obtain ⟨T77, L77, X77, e77, N77, st77⟩ := own_same X68 hx hZ hw hown hmd e68 N68 Zs68 hsy77 V_pa_78 (i := (1 : Int32)) (j := (3 : Int32)) (r := (0 : Int32)) ⟨by decide, by decide⟩ ⟨by decide, by decide⟩ rfl rfl (by simp [hq13_69]) rfl (g := (mkF m 35 #[rv sy, iv (4 : Int32), rv co, rv ob1, iv (1 : Int32), .val (.long (0 : Int64)), .second, iv (3 : Int32)] [(.int (3 : Int32)), (.int (1 : Int32)), (.ref sy)])) rfl (by rw [hml]; rfl) rfl rfl (hb hby d7_35) (by decide) (by decide) (by decide) (by decide)
        refine Goes.step ?_ st77
        show Goes p e below _ (sF T77 m 40 #[rv sy, iv (4 : Int32), rv co, rv ob1, iv (1 : Int32), .val (.long (0 : Int64)), .second, iv (3 : Int32)] [(.int (0 : Int32))])
        refine Goes.step ?_ (fun _ k => XS.ifNo X77.here hx rfl (hb hby d7_40) rfl ((if0 _ _).trans (teq (by decide : (0 : Int32) = (0 : Int32))).2) k)
        show Goes p e below _ (sF T77 m 43 #[rv sy, iv (4 : Int32), rv co, rv ob1, iv (1 : Int32), .val (.long (0 : Int64)), .second, iv (3 : Int32)] [])
        refine Goes.step ?_ (fun _ k => XS.aloadN X77.here hx rfl (hb hby d7_43) rfl rfl k)
        show Goes p e below _ (sF T77 m 44 #[rv sy, iv (4 : Int32), rv co, rv ob1, iv (1 : Int32), .val (.long (0 : Int64)), .second, iv (3 : Int32)] [(.ref ob1)])
        refine Goes.step ?_ (fun _ k => XS.iload X77.here hx rfl (hb hby d7_44) rfl  k)
        show Goes p e below _ (sF T77 m 46 #[rv sy, iv (4 : Int32), rv co, rv ob1, iv (1 : Int32), .val (.long (0 : Int64)), .second, iv (3 : Int32)] [(.int (1 : Int32)), (.ref ob1)])
        obtain ⟨cl79, Ar79, q79, S79, N_79, H79, G79⟩ := id V_68
        have hin80 : ¬ ((1 : Int32) < 0 ∨ cl79.slots.size ≤ ((1 : Int32)).toNatClampNeg) := inb_of S79 ⟨by decide, by decide⟩
        have hat80 : cl79.slots[((1 : Int32)).toNatClampNeg]? = some (.int (0 : Int32)) := H79.at hin80 rfl
        refine Goes.step ?_ (fun _ k => X77.iaload hx (j := (1 : Int32)) (v := (.int (0 : Int32))) (by rw [e77]; exact Ar79.1) (State.isArrayOf_alike hZ.alike Ar79.2.1) Ar79.2.2 hin80 hat80 (g := (mkF m 46 #[rv sy, iv (4 : Int32), rv co, rv ob1, iv (1 : Int32), .val (.long (0 : Int64)), .second, iv (3 : Int32)] [(.int (1 : Int32)), (.ref ob1)])) rfl rfl (hb hby d7_46) _ k)
        show Goes p e below _ (sF T77 m 47 #[rv sy, iv (4 : Int32), rv co, rv ob1, iv (1 : Int32), .val (.long (0 : Int64)), .second, iv (3 : Int32)] [(.int (0 : Int32))])
        refine Goes.step ?_ (fun _ k => XS.istore X77.here hx rfl (hb hby d7_47) rfl (l' := #[rv sy, iv (4 : Int32), rv co, rv ob1, iv (0 : Int32), .val (.long (0 : Int64)), .second, iv (3 : Int32)]) rfl k)
        show Goes p e below _ (sF T77 m 49 #[rv sy, iv (4 : Int32), rv co, rv ob1, iv (0 : Int32), .val (.long (0 : Int64)), .second, iv (3 : Int32)] [])
        refine Goes.step ?_ (fun _ k => XS.lload X77.here hx rfl (hb hby d7_49) rfl  k)
        show Goes p e below _ (sF T77 m 51 #[rv sy, iv (4 : Int32), rv co, rv ob1, iv (0 : Int32), .val (.long (0 : Int64)), .second, iv (3 : Int32)] [(.long (0 : Int64))])
        refine Goes.step ?_ (fun _ k => XS.lconst X77.here hx rfl (hb hby d7_51) k)
        show Goes p e below _ (sF T77 m 52 #[rv sy, iv (4 : Int32), rv co, rv ob1, iv (0 : Int32), .val (.long (0 : Int64)), .second, iv (3 : Int32)] [(.long (1 : Int64)), (.long (0 : Int64))])
        refine Goes.step ?_ (fun _ k => XS.ladd X77.here hx rfl (hb hby d7_52) rfl k)
        show Goes p e below _ (sF T77 m 53 #[rv sy, iv (4 : Int32), rv co, rv ob1, iv (0 : Int32), .val (.long (0 : Int64)), .second, iv (3 : Int32)] [(.long ((0 : Int64) + (1 : Int64)))])
        refine Goes.step ?_ (fun _ k => XS.lstore X77.here hx rfl (hb hby d7_53) rfl (l' := #[rv sy, iv (4 : Int32), rv co, rv ob1, iv (0 : Int32), .val (.long ((0 : Int64) + (1 : Int64))), .second, iv (3 : Int32)]) rfl k)
        show Goes p e below _ (sF T77 m 55 #[rv sy, iv (4 : Int32), rv co, rv ob1, iv (0 : Int32), .val (.long ((0 : Int64) + (1 : Int64))), .second, iv (3 : Int32)] [])
        refine Goes.step ?_ (fun _ k => XS.goto X77.here hx rfl (pc0 := 55) (pc' := 25) rfl (hb hby d7_55) (by decide) (by decide) k)
        show Goes p e below _ (sF T77 m 25 #[rv sy, iv (4 : Int32), rv co, rv ob1, iv (0 : Int32), .val (.long ((0 : Int64) + (1 : Int64))), .second, iv (3 : Int32)] [])
        refine Goes.step ?_ (fun _ k => XS.iload X77.here hx rfl (hb hby d7_25) rfl  k)
        show Goes p e below _ (sF T77 m 27 #[rv sy, iv (4 : Int32), rv co, rv ob1, iv (0 : Int32), .val (.long ((0 : Int64) + (1 : Int64))), .second, iv (3 : Int32)] [(.int (0 : Int32))])
        refine Goes.step ?_ (fun _ k => XS.ifYes X77.here hx rfl (pc0 := 27) (pc' := 58) rfl (hb hby d7_27) rfl ((if0 _ _).trans (flt (by decide : ¬ ((0 : Int32) < (0 : Int32)))).2.2.2) (by decide) (by decide) k)
        show Goes p e below _ (sF T77 m 58 #[rv sy, iv (4 : Int32), rv co, rv ob1, iv (0 : Int32), .val (.long ((0 : Int64) + (1 : Int64))), .second, iv (3 : Int32)] [])
        refine Goes.step ?_ (fun _ k => XS.iload X77.here hx rfl (hb hby d7_58) rfl  k)
        show Goes p e below _ (sF T77 m 60 #[rv sy, iv (4 : Int32), rv co, rv ob1, iv (0 : Int32), .val (.long ((0 : Int64) + (1 : Int64))), .second, iv (3 : Int32)] [(.int (0 : Int32))])
        refine Goes.step ?_ (fun _ k => XS.ifNo X77.here hx rfl (hb hby d7_60) rfl ((if0 _ _).trans (flt (by decide : ¬ ((0 : Int32) < (0 : Int32)))).2.2.1) k)
        show Goes p e below _ (sF T77 m 63 #[rv sy, iv (4 : Int32), rv co, rv ob1, iv (0 : Int32), .val (.long ((0 : Int64) + (1 : Int64))), .second, iv (3 : Int32)] [])
        refine Goes.step ?_ (fun _ k => XS.aloadN X77.here hx rfl (hb hby d7_63) rfl rfl k)
        show Goes p e below _ (sF T77 m 64 #[rv sy, iv (4 : Int32), rv co, rv ob1, iv (0 : Int32), .val (.long ((0 : Int64) + (1 : Int64))), .second, iv (3 : Int32)] [(.ref sy)])
        refine Goes.step ?_ (fun _ k => XS.iconst X77.here hx rfl (hb hby d7_64) k)
        show Goes p e below _ (sF T77 m 65 #[rv sy, iv (4 : Int32), rv co, rv ob1, iv (0 : Int32), .val (.long ((0 : Int64) + (1 : Int64))), .second, iv (3 : Int32)] [(.int (0 : Int32)), (.ref sy)])
        refine Goes.step ?_ (fun _ k => XS.iload X77.here hx rfl (hb hby d7_65) rfl  k)
        show Goes p e below _ (sF T77 m 67 #[rv sy, iv (4 : Int32), rv co, rv ob1, iv (0 : Int32), .val (.long ((0 : Int64) + (1 : Int64))), .second, iv (3 : Int32)] [(.int (3 : Int32)), (.int (0 : Int32)), (.ref sy)])
        by_cases hq03_81 : b0 = b3
        · have hsy82 : h68[sy]? = some ({ cls := cK, slots := #[.ref pa], vm := .none } : Cell) := hsy77
          obtain ⟨T82, L82, X82, e82, N82, st82⟩ := own_same X77 hx hZ hw hown hmd e77 N77 Zs68 hsy82 V_pa_78 (i := (0 : Int32)) (j := (3 : Int32)) (r := (1 : Int32)) ⟨by decide, by decide⟩ ⟨by decide, by decide⟩ rfl rfl (by simp [hq03_81]) rfl (g := (mkF m 67 #[rv sy, iv (4 : Int32), rv co, rv ob1, iv (0 : Int32), .val (.long ((0 : Int64) + (1 : Int64))), .second, iv (3 : Int32)] [(.int (3 : Int32)), (.int (0 : Int32)), (.ref sy)])) rfl (by rw [hml]; rfl) rfl rfl (hb hby d7_67) (by decide) (by decide) (by decide) (by decide)
          refine Goes.step ?_ st82
          show Goes p e below _ (sF T82 m 72 #[rv sy, iv (4 : Int32), rv co, rv ob1, iv (0 : Int32), .val (.long ((0 : Int64) + (1 : Int64))), .second, iv (3 : Int32)] [(.int (1 : Int32))])
          refine Goes.step ?_ (fun _ k => XS.ifNo X82.here hx rfl (hb hby d7_72) rfl ((if0 _ _).trans (feq (by decide : ¬ ((1 : Int32) = (0 : Int32)))).1) k)
          show Goes p e below _ (sF T82 m 75 #[rv sy, iv (4 : Int32), rv co, rv ob1, iv (0 : Int32), .val (.long ((0 : Int64) + (1 : Int64))), .second, iv (3 : Int32)] [])
          refine Goes.step ?_ (fun _ k => XS.iinc X82.here hx rfl (hb hby d7_75) rfl (l' := #[rv sy, iv (4 : Int32), rv co, rv ob1, iv ((0 : Int32) + (1 : Int32)), .val (.long ((0 : Int64) + (1 : Int64))), .second, iv (3 : Int32)]) rfl k)
          show Goes p e below _ (sF T82 m 78 #[rv sy, iv (4 : Int32), rv co, rv ob1, iv ((0 : Int32) + (1 : Int32)), .val (.long ((0 : Int64) + (1 : Int64))), .second, iv (3 : Int32)] [])
          rw [show ((0 : Int32) + (1 : Int32)) = (1 : Int32) from by decide]
          show Goes p e below _ (sF T82 m 78 #[rv sy, iv (4 : Int32), rv co, rv ob1, iv (1 : Int32), .val (.long ((0 : Int64) + (1 : Int64))), .second, iv (3 : Int32)] [])
          refine Goes.step ?_ (fun _ k => XS.aloadN X82.here hx rfl (hb hby d7_78) rfl rfl k)
          show Goes p e below _ (sF T82 m 79 #[rv sy, iv (4 : Int32), rv co, rv ob1, iv (1 : Int32), .val (.long ((0 : Int64) + (1 : Int64))), .second, iv (3 : Int32)] [(.ref ob1)])
          refine Goes.step ?_ (fun _ k => XS.iload X82.here hx rfl (hb hby d7_79) rfl  k)
          show Goes p e below _ (sF T82 m 81 #[rv sy, iv (4 : Int32), rv co, rv ob1, iv (1 : Int32), .val (.long ((0 : Int64) + (1 : Int64))), .second, iv (3 : Int32)] [(.int (3 : Int32)), (.ref ob1)])
          refine Goes.step ?_ (fun _ k => XS.iconst X82.here hx rfl (hb hby d7_81) k)
          show Goes p e below _ (sF T82 m 82 #[rv sy, iv (4 : Int32), rv co, rv ob1, iv (1 : Int32), .val (.long ((0 : Int64) + (1 : Int64))), .second, iv (3 : Int32)] [(.int (1 : Int32)), (.int (3 : Int32)), (.ref ob1)])
          refine Goes.step ?_ (fun _ k => XS.iadd X82.here hx rfl (hb hby d7_82) rfl k)
          show Goes p e below _ (sF T82 m 83 #[rv sy, iv (4 : Int32), rv co, rv ob1, iv (1 : Int32), .val (.long ((0 : Int64) + (1 : Int64))), .second, iv (3 : Int32)] [(.int ((3 : Int32) + (1 : Int32))), (.ref ob1)])
          rw [show ((3 : Int32) + (1 : Int32)) = (4 : Int32) from by decide]
          show Goes p e below _ (sF T82 m 83 #[rv sy, iv (4 : Int32), rv co, rv ob1, iv (1 : Int32), .val (.long ((0 : Int64) + (1 : Int64))), .second, iv (3 : Int32)] [(.int (4 : Int32)), (.ref ob1)])
          refine Goes.step ?_ (fun _ k => XS.iload X82.here hx rfl (hb hby d7_83) rfl  k)
          show Goes p e below _ (sF T82 m 85 #[rv sy, iv (4 : Int32), rv co, rv ob1, iv (1 : Int32), .val (.long ((0 : Int64) + (1 : Int64))), .second, iv (3 : Int32)] [(.int (1 : Int32)), (.int (4 : Int32)), (.ref ob1)])
          obtain ⟨cl83, Ar83, q83, S83, N_83, H83, G83⟩ := id V_68
          have hin84 : ¬ ((4 : Int32) < 0 ∨ cl83.slots.size ≤ ((4 : Int32)).toNatClampNeg) := inb_of S83 ⟨by decide, by decide⟩
          obtain ⟨T84, h84, X84, e84, W84, st84⟩ := stI X82 hx hZ e82 Ar83 (j := (4 : Int32)) hin84 (g := (mkF m 85 #[rv sy, iv (4 : Int32), rv co, rv ob1, iv (1 : Int32), .val (.long ((0 : Int64) + (1 : Int64))), .second, iv (3 : Int32)] [(.int (1 : Int32)), (.int (4 : Int32)), (.ref ob1)])) rfl rfl (hb hby d7_85)
          have V_84 : Arv Z h84 ob1 k1 .int (5 : Int32) [(.int (-1 : Int32)), (.int (0 : Int32)), (.int (0 : Int32)), (.int (1 : Int32)), (.int (1 : Int32))] (.int (0 : Int32)) := Arv.set Ar83 q83 S83 N_83 H83 G83 rfl W84 4 rfl (Nat.le_of_ble_eq_true rfl)
          have Zs84 : n0 ≤ h84.size := Nat.le_trans Zs68 (Keep.of_wr W84).1
          have N84 := Fr.snoc X84 N82 g_ob1
          refine Goes.step ?_ st84
          show Goes p e below _ (sF T84 m 86 #[rv sy, iv (4 : Int32), rv co, rv ob1, iv (1 : Int32), .val (.long ((0 : Int64) + (1 : Int64))), .second, iv (3 : Int32)] [])
          refine Goes.step ?_ (fun _ k => XS.iinc X84.here hx rfl (hb hby d7_86) rfl (l' := #[rv sy, iv (4 : Int32), rv co, rv ob1, iv (1 : Int32), .val (.long ((0 : Int64) + (1 : Int64))), .second, iv ((3 : Int32) + (1 : Int32))]) rfl k)
          show Goes p e below _ (sF T84 m 89 #[rv sy, iv (4 : Int32), rv co, rv ob1, iv (1 : Int32), .val (.long ((0 : Int64) + (1 : Int64))), .second, iv ((3 : Int32) + (1 : Int32))] [])
          rw [show ((3 : Int32) + (1 : Int32)) = (4 : Int32) from by decide]
          show Goes p e below _ (sF T84 m 89 #[rv sy, iv (4 : Int32), rv co, rv ob1, iv (1 : Int32), .val (.long ((0 : Int64) + (1 : Int64))), .second, iv (4 : Int32)] [])
          refine Goes.step ?_ (fun _ k => XS.goto X84.here hx rfl (pc0 := 89) (pc' := 19) rfl (hb hby d7_89) (by decide) (by decide) k)
          show Goes p e below _ (sF T84 m 19 #[rv sy, iv (4 : Int32), rv co, rv ob1, iv (1 : Int32), .val (.long ((0 : Int64) + (1 : Int64))), .second, iv (4 : Int32)] [])
          refine Goes.step ?_ (fun _ k => XS.iload X84.here hx rfl (hb hby d7_19) rfl  k)
          show Goes p e below _ (sF T84 m 21 #[rv sy, iv (4 : Int32), rv co, rv ob1, iv (1 : Int32), .val (.long ((0 : Int64) + (1 : Int64))), .second, iv (4 : Int32)] [(.int (4 : Int32))])
          refine Goes.step ?_ (fun _ k => XS.iloadN X84.here hx rfl (hb hby d7_21) rfl  k)
          show Goes p e below _ (sF T84 m 22 #[rv sy, iv (4 : Int32), rv co, rv ob1, iv (1 : Int32), .val (.long ((0 : Int64) + (1 : Int64))), .second, iv (4 : Int32)] [(.int (4 : Int32)), (.int (4 : Int32))])
          refine Goes.step ?_ (fun _ k => XS.icmpYes X84.here hx rfl (pc0 := 22) (pc' := 92) rfl (hb hby d7_22) rfl (flt (by decide : ¬ ((4 : Int32) < (4 : Int32)))).2.1 (by decide) (by decide) k)
          show Goes p e below _ (sF T84 m 92 #[rv sy, iv (4 : Int32), rv co, rv ob1, iv (1 : Int32), .val (.long ((0 : Int64) + (1 : Int64))), .second, iv (4 : Int32)] [])
          have t2 : (lg2 b0 b1) = (0 : Int32) := by simp only [lg2]; (first | (simp [hq01_4, hq02_64, hq13_69, hq03_81]; done) | (simp_all; done) | grind)
          have t3 : (lg3 b0 b1 b2) = (1 : Int32) := by simp only [lg3]; (first | (simp [hq01_4, hq02_64, hq13_69, hq03_81]; done) | (simp_all; done) | grind)
          have t4 : (lg4 b0 b1 b2 b3) = (1 : Int32) := by simp only [lg4]; (first | (simp [hq01_4, hq02_64, hq13_69, hq03_81]; done) | (simp_all; done) | grind)
          rw [show ([(.int (-1 : Int32)), (.int (0 : Int32)), (.int (0 : Int32)), (.int (1 : Int32)), (.int (1 : Int32))] : List Value) = [(.int (-1 : Int32)), (.int (0 : Int32)), (.int (lg2 b0 b1)), (.int (lg3 b0 b1 b2)), (.int (lg4 b0 b1 b2 b3))] from by rw [t2, t3, t4]] at V_84
          have K_85 := ((((((Keep.refl h0 [co]).ext E1).wr W3 (Or.inr sz_ob1)).wr W63 (Or.inr sz_ob1)).wr W68 (Or.inr sz_ob1)).wr W84 (Or.inr sz_ob1))
          have F_co_count_86 := (((((F_count.ext E1).other W3 (Or.inl ne_co_ob1)).other W63 (Or.inl ne_co_ob1)).other W68 (Or.inl ne_co_ob1)).other W84 (Or.inl ne_co_ob1))
          have E_co_87 := (((((E_co.ext E1).wr W3).wr W63).wr W68).wr W84)
          exact bu92_5 h0 sy co ob1 k1 b0 b1 b2 b3 b4 (1 : Int32) ((0 : Int64) + (1 : Int64)) (4 : Int32) X84 hx hZ hw hby hlk hret hml hown e84 N84 Zs84 K_85 V_84 F_co_count_86 E_co_87 ne_co_ob1 g_co sz_ob1 (by decide) (by decide)
        · have hsy88 : h68[sy]? = some ({ cls := cK, slots := #[.ref pa], vm := .none } : Cell) := hsy77
          obtain ⟨T88, L88, X88, e88, N88, st88⟩ := own_same X77 hx hZ hw hown hmd e77 N77 Zs68 hsy88 V_pa_78 (i := (0 : Int32)) (j := (3 : Int32)) (r := (0 : Int32)) ⟨by decide, by decide⟩ ⟨by decide, by decide⟩ rfl rfl (by simp [hq03_81]) rfl (g := (mkF m 67 #[rv sy, iv (4 : Int32), rv co, rv ob1, iv (0 : Int32), .val (.long ((0 : Int64) + (1 : Int64))), .second, iv (3 : Int32)] [(.int (3 : Int32)), (.int (0 : Int32)), (.ref sy)])) rfl (by rw [hml]; rfl) rfl rfl (hb hby d7_67) (by decide) (by decide) (by decide) (by decide)
          refine Goes.step ?_ st88
          show Goes p e below _ (sF T88 m 72 #[rv sy, iv (4 : Int32), rv co, rv ob1, iv (0 : Int32), .val (.long ((0 : Int64) + (1 : Int64))), .second, iv (3 : Int32)] [(.int (0 : Int32))])
          refine Goes.step ?_ (fun _ k => XS.ifYes X88.here hx rfl (pc0 := 72) (pc' := 78) rfl (hb hby d7_72) rfl ((if0 _ _).trans (teq (by decide : (0 : Int32) = (0 : Int32))).1) (by decide) (by decide) k)
          show Goes p e below _ (sF T88 m 78 #[rv sy, iv (4 : Int32), rv co, rv ob1, iv (0 : Int32), .val (.long ((0 : Int64) + (1 : Int64))), .second, iv (3 : Int32)] [])
          refine Goes.step ?_ (fun _ k => XS.aloadN X88.here hx rfl (hb hby d7_78) rfl rfl k)
          show Goes p e below _ (sF T88 m 79 #[rv sy, iv (4 : Int32), rv co, rv ob1, iv (0 : Int32), .val (.long ((0 : Int64) + (1 : Int64))), .second, iv (3 : Int32)] [(.ref ob1)])
          refine Goes.step ?_ (fun _ k => XS.iload X88.here hx rfl (hb hby d7_79) rfl  k)
          show Goes p e below _ (sF T88 m 81 #[rv sy, iv (4 : Int32), rv co, rv ob1, iv (0 : Int32), .val (.long ((0 : Int64) + (1 : Int64))), .second, iv (3 : Int32)] [(.int (3 : Int32)), (.ref ob1)])
          refine Goes.step ?_ (fun _ k => XS.iconst X88.here hx rfl (hb hby d7_81) k)
          show Goes p e below _ (sF T88 m 82 #[rv sy, iv (4 : Int32), rv co, rv ob1, iv (0 : Int32), .val (.long ((0 : Int64) + (1 : Int64))), .second, iv (3 : Int32)] [(.int (1 : Int32)), (.int (3 : Int32)), (.ref ob1)])
          refine Goes.step ?_ (fun _ k => XS.iadd X88.here hx rfl (hb hby d7_82) rfl k)
          show Goes p e below _ (sF T88 m 83 #[rv sy, iv (4 : Int32), rv co, rv ob1, iv (0 : Int32), .val (.long ((0 : Int64) + (1 : Int64))), .second, iv (3 : Int32)] [(.int ((3 : Int32) + (1 : Int32))), (.ref ob1)])
          rw [show ((3 : Int32) + (1 : Int32)) = (4 : Int32) from by decide]
          show Goes p e below _ (sF T88 m 83 #[rv sy, iv (4 : Int32), rv co, rv ob1, iv (0 : Int32), .val (.long ((0 : Int64) + (1 : Int64))), .second, iv (3 : Int32)] [(.int (4 : Int32)), (.ref ob1)])
          refine Goes.step ?_ (fun _ k => XS.iload X88.here hx rfl (hb hby d7_83) rfl  k)
          show Goes p e below _ (sF T88 m 85 #[rv sy, iv (4 : Int32), rv co, rv ob1, iv (0 : Int32), .val (.long ((0 : Int64) + (1 : Int64))), .second, iv (3 : Int32)] [(.int (0 : Int32)), (.int (4 : Int32)), (.ref ob1)])
          obtain ⟨cl89, Ar89, q89, S89, N_89, H89, G89⟩ := id V_68
          have hin90 : ¬ ((4 : Int32) < 0 ∨ cl89.slots.size ≤ ((4 : Int32)).toNatClampNeg) := inb_of S89 ⟨by decide, by decide⟩
          obtain ⟨T90, h90, X90, e90, W90, st90⟩ := stI X88 hx hZ e88 Ar89 (j := (4 : Int32)) hin90 (g := (mkF m 85 #[rv sy, iv (4 : Int32), rv co, rv ob1, iv (0 : Int32), .val (.long ((0 : Int64) + (1 : Int64))), .second, iv (3 : Int32)] [(.int (0 : Int32)), (.int (4 : Int32)), (.ref ob1)])) rfl rfl (hb hby d7_85)
          have V_90 : Arv Z h90 ob1 k1 .int (5 : Int32) [(.int (-1 : Int32)), (.int (0 : Int32)), (.int (0 : Int32)), (.int (1 : Int32)), (.int (0 : Int32))] (.int (0 : Int32)) := Arv.set Ar89 q89 S89 N_89 H89 G89 rfl W90 4 rfl (Nat.le_of_ble_eq_true rfl)
          have Zs90 : n0 ≤ h90.size := Nat.le_trans Zs68 (Keep.of_wr W90).1
          have N90 := Fr.snoc X90 N88 g_ob1
          refine Goes.step ?_ st90
          show Goes p e below _ (sF T90 m 86 #[rv sy, iv (4 : Int32), rv co, rv ob1, iv (0 : Int32), .val (.long ((0 : Int64) + (1 : Int64))), .second, iv (3 : Int32)] [])
          refine Goes.step ?_ (fun _ k => XS.iinc X90.here hx rfl (hb hby d7_86) rfl (l' := #[rv sy, iv (4 : Int32), rv co, rv ob1, iv (0 : Int32), .val (.long ((0 : Int64) + (1 : Int64))), .second, iv ((3 : Int32) + (1 : Int32))]) rfl k)
          show Goes p e below _ (sF T90 m 89 #[rv sy, iv (4 : Int32), rv co, rv ob1, iv (0 : Int32), .val (.long ((0 : Int64) + (1 : Int64))), .second, iv ((3 : Int32) + (1 : Int32))] [])
          rw [show ((3 : Int32) + (1 : Int32)) = (4 : Int32) from by decide]
          show Goes p e below _ (sF T90 m 89 #[rv sy, iv (4 : Int32), rv co, rv ob1, iv (0 : Int32), .val (.long ((0 : Int64) + (1 : Int64))), .second, iv (4 : Int32)] [])
          refine Goes.step ?_ (fun _ k => XS.goto X90.here hx rfl (pc0 := 89) (pc' := 19) rfl (hb hby d7_89) (by decide) (by decide) k)
          show Goes p e below _ (sF T90 m 19 #[rv sy, iv (4 : Int32), rv co, rv ob1, iv (0 : Int32), .val (.long ((0 : Int64) + (1 : Int64))), .second, iv (4 : Int32)] [])
          refine Goes.step ?_ (fun _ k => XS.iload X90.here hx rfl (hb hby d7_19) rfl  k)
          show Goes p e below _ (sF T90 m 21 #[rv sy, iv (4 : Int32), rv co, rv ob1, iv (0 : Int32), .val (.long ((0 : Int64) + (1 : Int64))), .second, iv (4 : Int32)] [(.int (4 : Int32))])
          refine Goes.step ?_ (fun _ k => XS.iloadN X90.here hx rfl (hb hby d7_21) rfl  k)
          show Goes p e below _ (sF T90 m 22 #[rv sy, iv (4 : Int32), rv co, rv ob1, iv (0 : Int32), .val (.long ((0 : Int64) + (1 : Int64))), .second, iv (4 : Int32)] [(.int (4 : Int32)), (.int (4 : Int32))])
          refine Goes.step ?_ (fun _ k => XS.icmpYes X90.here hx rfl (pc0 := 22) (pc' := 92) rfl (hb hby d7_22) rfl (flt (by decide : ¬ ((4 : Int32) < (4 : Int32)))).2.1 (by decide) (by decide) k)
          show Goes p e below _ (sF T90 m 92 #[rv sy, iv (4 : Int32), rv co, rv ob1, iv (0 : Int32), .val (.long ((0 : Int64) + (1 : Int64))), .second, iv (4 : Int32)] [])
          have t2 : (lg2 b0 b1) = (0 : Int32) := by simp only [lg2]; (first | (simp [hq01_4, hq02_64, hq13_69, hq03_81]; done) | (simp_all; done) | grind)
          have t3 : (lg3 b0 b1 b2) = (1 : Int32) := by simp only [lg3]; (first | (simp [hq01_4, hq02_64, hq13_69, hq03_81]; done) | (simp_all; done) | grind)
          have t4 : (lg4 b0 b1 b2 b3) = (0 : Int32) := by simp only [lg4]; (first | (simp [hq01_4, hq02_64, hq13_69, hq03_81]; done) | (simp_all; done) | grind)
          rw [show ([(.int (-1 : Int32)), (.int (0 : Int32)), (.int (0 : Int32)), (.int (1 : Int32)), (.int (0 : Int32))] : List Value) = [(.int (-1 : Int32)), (.int (0 : Int32)), (.int (lg2 b0 b1)), (.int (lg3 b0 b1 b2)), (.int (lg4 b0 b1 b2 b3))] from by rw [t2, t3, t4]] at V_90
          have K_91 := ((((((Keep.refl h0 [co]).ext E1).wr W3 (Or.inr sz_ob1)).wr W63 (Or.inr sz_ob1)).wr W68 (Or.inr sz_ob1)).wr W90 (Or.inr sz_ob1))
          have F_co_count_92 := (((((F_count.ext E1).other W3 (Or.inl ne_co_ob1)).other W63 (Or.inl ne_co_ob1)).other W68 (Or.inl ne_co_ob1)).other W90 (Or.inl ne_co_ob1))
          have E_co_93 := (((((E_co.ext E1).wr W3).wr W63).wr W68).wr W90)
          exact bu92_5 h0 sy co ob1 k1 b0 b1 b2 b3 b4 (0 : Int32) ((0 : Int64) + (1 : Int64)) (4 : Int32) X90 hx hZ hw hby hlk hret hml hown e90 N90 Zs90 K_91 V_90 F_co_count_92 E_co_93 ne_co_ob1 g_co sz_ob1 (by decide) (by decide)
    · have hsy94 : h63[sy]? = some ({ cls := cK, slots := #[.ref pa], vm := .none } : Cell) := ((Keep.of_wr W63).2.1 _ _ hsy60 (ninS ne_sy_ob1 nin0))
      have V_pa_95 := (V_pa_61.other W63 ne_pa_ob1)
      obtain ⟨T94, L94, X94, e94, N94, st94⟩ := own_same X63 hx hZ hw hown hmd e63 N63 Zs63 hsy94 V_pa_95 (i := (0 : Int32)) (j := (2 : Int32)) (r := (0 : Int32)) ⟨by decide, by decide⟩ ⟨by decide, by decide⟩ rfl rfl (by simp [hq02_64]) rfl (g := (mkF m 67 #[rv sy, iv (4 : Int32), rv co, rv ob1, iv (0 : Int32), .val (.long (0 : Int64)), .second, iv (2 : Int32)] [(.int (2 : Int32)), (.int (0 : Int32)), (.ref sy)])) rfl (by rw [hml]; rfl) rfl rfl (hb hby d7_67) (by decide) (by decide) (by decide) (by decide)
      refine Goes.step ?_ st94
      show Goes p e below _ (sF T94 m 72 #[rv sy, iv (4 : Int32), rv co, rv ob1, iv (0 : Int32), .val (.long (0 : Int64)), .second, iv (2 : Int32)] [(.int (0 : Int32))])
      refine Goes.step ?_ (fun _ k => XS.ifYes X94.here hx rfl (pc0 := 72) (pc' := 78) rfl (hb hby d7_72) rfl ((if0 _ _).trans (teq (by decide : (0 : Int32) = (0 : Int32))).1) (by decide) (by decide) k)
      show Goes p e below _ (sF T94 m 78 #[rv sy, iv (4 : Int32), rv co, rv ob1, iv (0 : Int32), .val (.long (0 : Int64)), .second, iv (2 : Int32)] [])
      refine Goes.step ?_ (fun _ k => XS.aloadN X94.here hx rfl (hb hby d7_78) rfl rfl k)
      show Goes p e below _ (sF T94 m 79 #[rv sy, iv (4 : Int32), rv co, rv ob1, iv (0 : Int32), .val (.long (0 : Int64)), .second, iv (2 : Int32)] [(.ref ob1)])
      refine Goes.step ?_ (fun _ k => XS.iload X94.here hx rfl (hb hby d7_79) rfl  k)
      show Goes p e below _ (sF T94 m 81 #[rv sy, iv (4 : Int32), rv co, rv ob1, iv (0 : Int32), .val (.long (0 : Int64)), .second, iv (2 : Int32)] [(.int (2 : Int32)), (.ref ob1)])
      refine Goes.step ?_ (fun _ k => XS.iconst X94.here hx rfl (hb hby d7_81) k)
      show Goes p e below _ (sF T94 m 82 #[rv sy, iv (4 : Int32), rv co, rv ob1, iv (0 : Int32), .val (.long (0 : Int64)), .second, iv (2 : Int32)] [(.int (1 : Int32)), (.int (2 : Int32)), (.ref ob1)])
      refine Goes.step ?_ (fun _ k => XS.iadd X94.here hx rfl (hb hby d7_82) rfl k)
      show Goes p e below _ (sF T94 m 83 #[rv sy, iv (4 : Int32), rv co, rv ob1, iv (0 : Int32), .val (.long (0 : Int64)), .second, iv (2 : Int32)] [(.int ((2 : Int32) + (1 : Int32))), (.ref ob1)])
      rw [show ((2 : Int32) + (1 : Int32)) = (3 : Int32) from by decide]
      show Goes p e below _ (sF T94 m 83 #[rv sy, iv (4 : Int32), rv co, rv ob1, iv (0 : Int32), .val (.long (0 : Int64)), .second, iv (2 : Int32)] [(.int (3 : Int32)), (.ref ob1)])
      refine Goes.step ?_ (fun _ k => XS.iload X94.here hx rfl (hb hby d7_83) rfl  k)
      show Goes p e below _ (sF T94 m 85 #[rv sy, iv (4 : Int32), rv co, rv ob1, iv (0 : Int32), .val (.long (0 : Int64)), .second, iv (2 : Int32)] [(.int (0 : Int32)), (.int (3 : Int32)), (.ref ob1)])
      obtain ⟨cl96, Ar96, q96, S96, N_96, H96, G96⟩ := id V_63
      have hin97 : ¬ ((3 : Int32) < 0 ∨ cl96.slots.size ≤ ((3 : Int32)).toNatClampNeg) := inb_of S96 ⟨by decide, by decide⟩
      obtain ⟨T97, h97, X97, e97, W97, st97⟩ := stI X94 hx hZ e94 Ar96 (j := (3 : Int32)) hin97 (g := (mkF m 85 #[rv sy, iv (4 : Int32), rv co, rv ob1, iv (0 : Int32), .val (.long (0 : Int64)), .second, iv (2 : Int32)] [(.int (0 : Int32)), (.int (3 : Int32)), (.ref ob1)])) rfl rfl (hb hby d7_85)
      have V_97 : Arv Z h97 ob1 k1 .int (5 : Int32) [(.int (-1 : Int32)), (.int (0 : Int32)), (.int (0 : Int32)), (.int (0 : Int32)), (.int (0 : Int32))] (.int (0 : Int32)) := Arv.set Ar96 q96 S96 N_96 H96 G96 rfl W97 3 rfl (Nat.le_of_ble_eq_true rfl)
      have Zs97 : n0 ≤ h97.size := Nat.le_trans Zs63 (Keep.of_wr W97).1
      have N97 := Fr.snoc X97 N94 g_ob1
      refine Goes.step ?_ st97
      show Goes p e below _ (sF T97 m 86 #[rv sy, iv (4 : Int32), rv co, rv ob1, iv (0 : Int32), .val (.long (0 : Int64)), .second, iv (2 : Int32)] [])
      refine Goes.step ?_ (fun _ k => XS.iinc X97.here hx rfl (hb hby d7_86) rfl (l' := #[rv sy, iv (4 : Int32), rv co, rv ob1, iv (0 : Int32), .val (.long (0 : Int64)), .second, iv ((2 : Int32) + (1 : Int32))]) rfl k)
      show Goes p e below _ (sF T97 m 89 #[rv sy, iv (4 : Int32), rv co, rv ob1, iv (0 : Int32), .val (.long (0 : Int64)), .second, iv ((2 : Int32) + (1 : Int32))] [])
      rw [show ((2 : Int32) + (1 : Int32)) = (3 : Int32) from by decide]
      show Goes p e below _ (sF T97 m 89 #[rv sy, iv (4 : Int32), rv co, rv ob1, iv (0 : Int32), .val (.long (0 : Int64)), .second, iv (3 : Int32)] [])
      refine Goes.step ?_ (fun _ k => XS.goto X97.here hx rfl (pc0 := 89) (pc' := 19) rfl (hb hby d7_89) (by decide) (by decide) k)
      show Goes p e below _ (sF T97 m 19 #[rv sy, iv (4 : Int32), rv co, rv ob1, iv (0 : Int32), .val (.long (0 : Int64)), .second, iv (3 : Int32)] [])
      refine Goes.step ?_ (fun _ k => XS.iload X97.here hx rfl (hb hby d7_19) rfl  k)
      show Goes p e below _ (sF T97 m 21 #[rv sy, iv (4 : Int32), rv co, rv ob1, iv (0 : Int32), .val (.long (0 : Int64)), .second, iv (3 : Int32)] [(.int (3 : Int32))])
      refine Goes.step ?_ (fun _ k => XS.iloadN X97.here hx rfl (hb hby d7_21) rfl  k)
      show Goes p e below _ (sF T97 m 22 #[rv sy, iv (4 : Int32), rv co, rv ob1, iv (0 : Int32), .val (.long (0 : Int64)), .second, iv (3 : Int32)] [(.int (4 : Int32)), (.int (3 : Int32))])
      refine Goes.step ?_ (fun _ k => XS.icmpNo X97.here hx rfl (hb hby d7_22) rfl (tlt (by decide : (3 : Int32) < (4 : Int32))).2.1 k)
      show Goes p e below _ (sF T97 m 25 #[rv sy, iv (4 : Int32), rv co, rv ob1, iv (0 : Int32), .val (.long (0 : Int64)), .second, iv (3 : Int32)] [])
      refine Goes.step ?_ (fun _ k => XS.iload X97.here hx rfl (hb hby d7_25) rfl  k)
      show Goes p e below _ (sF T97 m 27 #[rv sy, iv (4 : Int32), rv co, rv ob1, iv (0 : Int32), .val (.long (0 : Int64)), .second, iv (3 : Int32)] [(.int (0 : Int32))])
      refine Goes.step ?_ (fun _ k => XS.ifYes X97.here hx rfl (pc0 := 27) (pc' := 58) rfl (hb hby d7_27) rfl ((if0 _ _).trans (flt (by decide : ¬ ((0 : Int32) < (0 : Int32)))).2.2.2) (by decide) (by decide) k)
      show Goes p e below _ (sF T97 m 58 #[rv sy, iv (4 : Int32), rv co, rv ob1, iv (0 : Int32), .val (.long (0 : Int64)), .second, iv (3 : Int32)] [])
      refine Goes.step ?_ (fun _ k => XS.iload X97.here hx rfl (hb hby d7_58) rfl  k)
      show Goes p e below _ (sF T97 m 60 #[rv sy, iv (4 : Int32), rv co, rv ob1, iv (0 : Int32), .val (.long (0 : Int64)), .second, iv (3 : Int32)] [(.int (0 : Int32))])
      refine Goes.step ?_ (fun _ k => XS.ifNo X97.here hx rfl (hb hby d7_60) rfl ((if0 _ _).trans (flt (by decide : ¬ ((0 : Int32) < (0 : Int32)))).2.2.1) k)
      show Goes p e below _ (sF T97 m 63 #[rv sy, iv (4 : Int32), rv co, rv ob1, iv (0 : Int32), .val (.long (0 : Int64)), .second, iv (3 : Int32)] [])
      refine Goes.step ?_ (fun _ k => XS.aloadN X97.here hx rfl (hb hby d7_63) rfl rfl k)
      show Goes p e below _ (sF T97 m 64 #[rv sy, iv (4 : Int32), rv co, rv ob1, iv (0 : Int32), .val (.long (0 : Int64)), .second, iv (3 : Int32)] [(.ref sy)])
      refine Goes.step ?_ (fun _ k => XS.iconst X97.here hx rfl (hb hby d7_64) k)
      show Goes p e below _ (sF T97 m 65 #[rv sy, iv (4 : Int32), rv co, rv ob1, iv (0 : Int32), .val (.long (0 : Int64)), .second, iv (3 : Int32)] [(.int (0 : Int32)), (.ref sy)])
      refine Goes.step ?_ (fun _ k => XS.iload X97.here hx rfl (hb hby d7_65) rfl  k)
      show Goes p e below _ (sF T97 m 67 #[rv sy, iv (4 : Int32), rv co, rv ob1, iv (0 : Int32), .val (.long (0 : Int64)), .second, iv (3 : Int32)] [(.int (3 : Int32)), (.int (0 : Int32)), (.ref sy)])
      by_cases hq03_98 : b0 = b3
      · have hsy99 : h97[sy]? = some ({ cls := cK, slots := #[.ref pa], vm := .none } : Cell) := ((Keep.of_wr W97).2.1 _ _ hsy94 (ninS ne_sy_ob1 nin0))
        have V_pa_100 := (V_pa_95.other W97 ne_pa_ob1)
        obtain ⟨T99, L99, X99, e99, N99, st99⟩ := own_same X97 hx hZ hw hown hmd e97 N97 Zs97 hsy99 V_pa_100 (i := (0 : Int32)) (j := (3 : Int32)) (r := (1 : Int32)) ⟨by decide, by decide⟩ ⟨by decide, by decide⟩ rfl rfl (by simp [hq03_98]) rfl (g := (mkF m 67 #[rv sy, iv (4 : Int32), rv co, rv ob1, iv (0 : Int32), .val (.long (0 : Int64)), .second, iv (3 : Int32)] [(.int (3 : Int32)), (.int (0 : Int32)), (.ref sy)])) rfl (by rw [hml]; rfl) rfl rfl (hb hby d7_67) (by decide) (by decide) (by decide) (by decide)
        refine Goes.step ?_ st99
        show Goes p e below _ (sF T99 m 72 #[rv sy, iv (4 : Int32), rv co, rv ob1, iv (0 : Int32), .val (.long (0 : Int64)), .second, iv (3 : Int32)] [(.int (1 : Int32))])
        refine Goes.step ?_ (fun _ k => XS.ifNo X99.here hx rfl (hb hby d7_72) rfl ((if0 _ _).trans (feq (by decide : ¬ ((1 : Int32) = (0 : Int32)))).1) k)
        show Goes p e below _ (sF T99 m 75 #[rv sy, iv (4 : Int32), rv co, rv ob1, iv (0 : Int32), .val (.long (0 : Int64)), .second, iv (3 : Int32)] [])
        refine Goes.step ?_ (fun _ k => XS.iinc X99.here hx rfl (hb hby d7_75) rfl (l' := #[rv sy, iv (4 : Int32), rv co, rv ob1, iv ((0 : Int32) + (1 : Int32)), .val (.long (0 : Int64)), .second, iv (3 : Int32)]) rfl k)
        show Goes p e below _ (sF T99 m 78 #[rv sy, iv (4 : Int32), rv co, rv ob1, iv ((0 : Int32) + (1 : Int32)), .val (.long (0 : Int64)), .second, iv (3 : Int32)] [])
        rw [show ((0 : Int32) + (1 : Int32)) = (1 : Int32) from by decide]
        show Goes p e below _ (sF T99 m 78 #[rv sy, iv (4 : Int32), rv co, rv ob1, iv (1 : Int32), .val (.long (0 : Int64)), .second, iv (3 : Int32)] [])
        refine Goes.step ?_ (fun _ k => XS.aloadN X99.here hx rfl (hb hby d7_78) rfl rfl k)
        show Goes p e below _ (sF T99 m 79 #[rv sy, iv (4 : Int32), rv co, rv ob1, iv (1 : Int32), .val (.long (0 : Int64)), .second, iv (3 : Int32)] [(.ref ob1)])
        refine Goes.step ?_ (fun _ k => XS.iload X99.here hx rfl (hb hby d7_79) rfl  k)
        show Goes p e below _ (sF T99 m 81 #[rv sy, iv (4 : Int32), rv co, rv ob1, iv (1 : Int32), .val (.long (0 : Int64)), .second, iv (3 : Int32)] [(.int (3 : Int32)), (.ref ob1)])
        refine Goes.step ?_ (fun _ k => XS.iconst X99.here hx rfl (hb hby d7_81) k)
        show Goes p e below _ (sF T99 m 82 #[rv sy, iv (4 : Int32), rv co, rv ob1, iv (1 : Int32), .val (.long (0 : Int64)), .second, iv (3 : Int32)] [(.int (1 : Int32)), (.int (3 : Int32)), (.ref ob1)])
        refine Goes.step ?_ (fun _ k => XS.iadd X99.here hx rfl (hb hby d7_82) rfl k)
        show Goes p e below _ (sF T99 m 83 #[rv sy, iv (4 : Int32), rv co, rv ob1, iv (1 : Int32), .val (.long (0 : Int64)), .second, iv (3 : Int32)] [(.int ((3 : Int32) + (1 : Int32))), (.ref ob1)])
        rw [show ((3 : Int32) + (1 : Int32)) = (4 : Int32) from by decide]
        show Goes p e below _ (sF T99 m 83 #[rv sy, iv (4 : Int32), rv co, rv ob1, iv (1 : Int32), .val (.long (0 : Int64)), .second, iv (3 : Int32)] [(.int (4 : Int32)), (.ref ob1)])
        refine Goes.step ?_ (fun _ k => XS.iload X99.here hx rfl (hb hby d7_83) rfl  k)
        show Goes p e below _ (sF T99 m 85 #[rv sy, iv (4 : Int32), rv co, rv ob1, iv (1 : Int32), .val (.long (0 : Int64)), .second, iv (3 : Int32)] [(.int (1 : Int32)), (.int (4 : Int32)), (.ref ob1)])
        obtain ⟨cl101, Ar101, q101, S101, N_101, H101, G101⟩ := id V_97
        have hin102 : ¬ ((4 : Int32) < 0 ∨ cl101.slots.size ≤ ((4 : Int32)).toNatClampNeg) := inb_of S101 ⟨by decide, by decide⟩
        obtain ⟨T102, h102, X102, e102, W102, st102⟩ := stI X99 hx hZ e99 Ar101 (j := (4 : Int32)) hin102 (g := (mkF m 85 #[rv sy, iv (4 : Int32), rv co, rv ob1, iv (1 : Int32), .val (.long (0 : Int64)), .second, iv (3 : Int32)] [(.int (1 : Int32)), (.int (4 : Int32)), (.ref ob1)])) rfl rfl (hb hby d7_85)
        have V_102 : Arv Z h102 ob1 k1 .int (5 : Int32) [(.int (-1 : Int32)), (.int (0 : Int32)), (.int (0 : Int32)), (.int (0 : Int32)), (.int (1 : Int32))] (.int (0 : Int32)) := Arv.set Ar101 q101 S101 N_101 H101 G101 rfl W102 4 rfl (Nat.le_of_ble_eq_true rfl)
        have Zs102 : n0 ≤ h102.size := Nat.le_trans Zs97 (Keep.of_wr W102).1
        have N102 := Fr.snoc X102 N99 g_ob1
        refine Goes.step ?_ st102
        show Goes p e below _ (sF T102 m 86 #[rv sy, iv (4 : Int32), rv co, rv ob1, iv (1 : Int32), .val (.long (0 : Int64)), .second, iv (3 : Int32)] [])
        refine Goes.step ?_ (fun _ k => XS.iinc X102.here hx rfl (hb hby d7_86) rfl (l' := #[rv sy, iv (4 : Int32), rv co, rv ob1, iv (1 : Int32), .val (.long (0 : Int64)), .second, iv ((3 : Int32) + (1 : Int32))]) rfl k)
        show Goes p e below _ (sF T102 m 89 #[rv sy, iv (4 : Int32), rv co, rv ob1, iv (1 : Int32), .val (.long (0 : Int64)), .second, iv ((3 : Int32) + (1 : Int32))] [])
        rw [show ((3 : Int32) + (1 : Int32)) = (4 : Int32) from by decide]
        show Goes p e below _ (sF T102 m 89 #[rv sy, iv (4 : Int32), rv co, rv ob1, iv (1 : Int32), .val (.long (0 : Int64)), .second, iv (4 : Int32)] [])
        refine Goes.step ?_ (fun _ k => XS.goto X102.here hx rfl (pc0 := 89) (pc' := 19) rfl (hb hby d7_89) (by decide) (by decide) k)
        show Goes p e below _ (sF T102 m 19 #[rv sy, iv (4 : Int32), rv co, rv ob1, iv (1 : Int32), .val (.long (0 : Int64)), .second, iv (4 : Int32)] [])
        refine Goes.step ?_ (fun _ k => XS.iload X102.here hx rfl (hb hby d7_19) rfl  k)
        show Goes p e below _ (sF T102 m 21 #[rv sy, iv (4 : Int32), rv co, rv ob1, iv (1 : Int32), .val (.long (0 : Int64)), .second, iv (4 : Int32)] [(.int (4 : Int32))])
        refine Goes.step ?_ (fun _ k => XS.iloadN X102.here hx rfl (hb hby d7_21) rfl  k)
        show Goes p e below _ (sF T102 m 22 #[rv sy, iv (4 : Int32), rv co, rv ob1, iv (1 : Int32), .val (.long (0 : Int64)), .second, iv (4 : Int32)] [(.int (4 : Int32)), (.int (4 : Int32))])
        refine Goes.step ?_ (fun _ k => XS.icmpYes X102.here hx rfl (pc0 := 22) (pc' := 92) rfl (hb hby d7_22) rfl (flt (by decide : ¬ ((4 : Int32) < (4 : Int32)))).2.1 (by decide) (by decide) k)
        show Goes p e below _ (sF T102 m 92 #[rv sy, iv (4 : Int32), rv co, rv ob1, iv (1 : Int32), .val (.long (0 : Int64)), .second, iv (4 : Int32)] [])
        have t2 : (lg2 b0 b1) = (0 : Int32) := by simp only [lg2]; (first | (simp [hq01_4, hq02_64, hq03_98]; done) | (simp_all; done) | grind)
        have t3 : (lg3 b0 b1 b2) = (0 : Int32) := by simp only [lg3]; (first | (simp [hq01_4, hq02_64, hq03_98]; done) | (simp_all; done) | grind)
        have t4 : (lg4 b0 b1 b2 b3) = (1 : Int32) := by simp only [lg4]; (first | (simp [hq01_4, hq02_64, hq03_98]; done) | (simp_all; done) | grind)
        rw [show ([(.int (-1 : Int32)), (.int (0 : Int32)), (.int (0 : Int32)), (.int (0 : Int32)), (.int (1 : Int32))] : List Value) = [(.int (-1 : Int32)), (.int (0 : Int32)), (.int (lg2 b0 b1)), (.int (lg3 b0 b1 b2)), (.int (lg4 b0 b1 b2 b3))] from by rw [t2, t3, t4]] at V_102
        have K_103 := ((((((Keep.refl h0 [co]).ext E1).wr W3 (Or.inr sz_ob1)).wr W63 (Or.inr sz_ob1)).wr W97 (Or.inr sz_ob1)).wr W102 (Or.inr sz_ob1))
        have F_co_count_104 := (((((F_count.ext E1).other W3 (Or.inl ne_co_ob1)).other W63 (Or.inl ne_co_ob1)).other W97 (Or.inl ne_co_ob1)).other W102 (Or.inl ne_co_ob1))
        have E_co_105 := (((((E_co.ext E1).wr W3).wr W63).wr W97).wr W102)
        exact bu92_5 h0 sy co ob1 k1 b0 b1 b2 b3 b4 (1 : Int32) (0 : Int64) (4 : Int32) X102 hx hZ hw hby hlk hret hml hown e102 N102 Zs102 K_103 V_102 F_co_count_104 E_co_105 ne_co_ob1 g_co sz_ob1 (by decide) (by decide)
      · have hsy106 : h97[sy]? = some ({ cls := cK, slots := #[.ref pa], vm := .none } : Cell) := ((Keep.of_wr W97).2.1 _ _ hsy94 (ninS ne_sy_ob1 nin0))
        have V_pa_107 := (V_pa_95.other W97 ne_pa_ob1)
        obtain ⟨T106, L106, X106, e106, N106, st106⟩ := own_same X97 hx hZ hw hown hmd e97 N97 Zs97 hsy106 V_pa_107 (i := (0 : Int32)) (j := (3 : Int32)) (r := (0 : Int32)) ⟨by decide, by decide⟩ ⟨by decide, by decide⟩ rfl rfl (by simp [hq03_98]) rfl (g := (mkF m 67 #[rv sy, iv (4 : Int32), rv co, rv ob1, iv (0 : Int32), .val (.long (0 : Int64)), .second, iv (3 : Int32)] [(.int (3 : Int32)), (.int (0 : Int32)), (.ref sy)])) rfl (by rw [hml]; rfl) rfl rfl (hb hby d7_67) (by decide) (by decide) (by decide) (by decide)
        refine Goes.step ?_ st106
        show Goes p e below _ (sF T106 m 72 #[rv sy, iv (4 : Int32), rv co, rv ob1, iv (0 : Int32), .val (.long (0 : Int64)), .second, iv (3 : Int32)] [(.int (0 : Int32))])
        refine Goes.step ?_ (fun _ k => XS.ifYes X106.here hx rfl (pc0 := 72) (pc' := 78) rfl (hb hby d7_72) rfl ((if0 _ _).trans (teq (by decide : (0 : Int32) = (0 : Int32))).1) (by decide) (by decide) k)
        show Goes p e below _ (sF T106 m 78 #[rv sy, iv (4 : Int32), rv co, rv ob1, iv (0 : Int32), .val (.long (0 : Int64)), .second, iv (3 : Int32)] [])
        refine Goes.step ?_ (fun _ k => XS.aloadN X106.here hx rfl (hb hby d7_78) rfl rfl k)
        show Goes p e below _ (sF T106 m 79 #[rv sy, iv (4 : Int32), rv co, rv ob1, iv (0 : Int32), .val (.long (0 : Int64)), .second, iv (3 : Int32)] [(.ref ob1)])
        refine Goes.step ?_ (fun _ k => XS.iload X106.here hx rfl (hb hby d7_79) rfl  k)
        show Goes p e below _ (sF T106 m 81 #[rv sy, iv (4 : Int32), rv co, rv ob1, iv (0 : Int32), .val (.long (0 : Int64)), .second, iv (3 : Int32)] [(.int (3 : Int32)), (.ref ob1)])
        refine Goes.step ?_ (fun _ k => XS.iconst X106.here hx rfl (hb hby d7_81) k)
        show Goes p e below _ (sF T106 m 82 #[rv sy, iv (4 : Int32), rv co, rv ob1, iv (0 : Int32), .val (.long (0 : Int64)), .second, iv (3 : Int32)] [(.int (1 : Int32)), (.int (3 : Int32)), (.ref ob1)])
        refine Goes.step ?_ (fun _ k => XS.iadd X106.here hx rfl (hb hby d7_82) rfl k)
        show Goes p e below _ (sF T106 m 83 #[rv sy, iv (4 : Int32), rv co, rv ob1, iv (0 : Int32), .val (.long (0 : Int64)), .second, iv (3 : Int32)] [(.int ((3 : Int32) + (1 : Int32))), (.ref ob1)])
        rw [show ((3 : Int32) + (1 : Int32)) = (4 : Int32) from by decide]
        show Goes p e below _ (sF T106 m 83 #[rv sy, iv (4 : Int32), rv co, rv ob1, iv (0 : Int32), .val (.long (0 : Int64)), .second, iv (3 : Int32)] [(.int (4 : Int32)), (.ref ob1)])
        refine Goes.step ?_ (fun _ k => XS.iload X106.here hx rfl (hb hby d7_83) rfl  k)
        show Goes p e below _ (sF T106 m 85 #[rv sy, iv (4 : Int32), rv co, rv ob1, iv (0 : Int32), .val (.long (0 : Int64)), .second, iv (3 : Int32)] [(.int (0 : Int32)), (.int (4 : Int32)), (.ref ob1)])
        obtain ⟨cl108, Ar108, q108, S108, N_108, H108, G108⟩ := id V_97
        have hin109 : ¬ ((4 : Int32) < 0 ∨ cl108.slots.size ≤ ((4 : Int32)).toNatClampNeg) := inb_of S108 ⟨by decide, by decide⟩
        obtain ⟨T109, h109, X109, e109, W109, st109⟩ := stI X106 hx hZ e106 Ar108 (j := (4 : Int32)) hin109 (g := (mkF m 85 #[rv sy, iv (4 : Int32), rv co, rv ob1, iv (0 : Int32), .val (.long (0 : Int64)), .second, iv (3 : Int32)] [(.int (0 : Int32)), (.int (4 : Int32)), (.ref ob1)])) rfl rfl (hb hby d7_85)
        have V_109 : Arv Z h109 ob1 k1 .int (5 : Int32) [(.int (-1 : Int32)), (.int (0 : Int32)), (.int (0 : Int32)), (.int (0 : Int32)), (.int (0 : Int32))] (.int (0 : Int32)) := Arv.set Ar108 q108 S108 N_108 H108 G108 rfl W109 4 rfl (Nat.le_of_ble_eq_true rfl)
        have Zs109 : n0 ≤ h109.size := Nat.le_trans Zs97 (Keep.of_wr W109).1
        have N109 := Fr.snoc X109 N106 g_ob1
        refine Goes.step ?_ st109
        show Goes p e below _ (sF T109 m 86 #[rv sy, iv (4 : Int32), rv co, rv ob1, iv (0 : Int32), .val (.long (0 : Int64)), .second, iv (3 : Int32)] [])
        refine Goes.step ?_ (fun _ k => XS.iinc X109.here hx rfl (hb hby d7_86) rfl (l' := #[rv sy, iv (4 : Int32), rv co, rv ob1, iv (0 : Int32), .val (.long (0 : Int64)), .second, iv ((3 : Int32) + (1 : Int32))]) rfl k)
        show Goes p e below _ (sF T109 m 89 #[rv sy, iv (4 : Int32), rv co, rv ob1, iv (0 : Int32), .val (.long (0 : Int64)), .second, iv ((3 : Int32) + (1 : Int32))] [])
        rw [show ((3 : Int32) + (1 : Int32)) = (4 : Int32) from by decide]
        show Goes p e below _ (sF T109 m 89 #[rv sy, iv (4 : Int32), rv co, rv ob1, iv (0 : Int32), .val (.long (0 : Int64)), .second, iv (4 : Int32)] [])
        refine Goes.step ?_ (fun _ k => XS.goto X109.here hx rfl (pc0 := 89) (pc' := 19) rfl (hb hby d7_89) (by decide) (by decide) k)
        show Goes p e below _ (sF T109 m 19 #[rv sy, iv (4 : Int32), rv co, rv ob1, iv (0 : Int32), .val (.long (0 : Int64)), .second, iv (4 : Int32)] [])
        refine Goes.step ?_ (fun _ k => XS.iload X109.here hx rfl (hb hby d7_19) rfl  k)
        show Goes p e below _ (sF T109 m 21 #[rv sy, iv (4 : Int32), rv co, rv ob1, iv (0 : Int32), .val (.long (0 : Int64)), .second, iv (4 : Int32)] [(.int (4 : Int32))])
        refine Goes.step ?_ (fun _ k => XS.iloadN X109.here hx rfl (hb hby d7_21) rfl  k)
        show Goes p e below _ (sF T109 m 22 #[rv sy, iv (4 : Int32), rv co, rv ob1, iv (0 : Int32), .val (.long (0 : Int64)), .second, iv (4 : Int32)] [(.int (4 : Int32)), (.int (4 : Int32))])
        refine Goes.step ?_ (fun _ k => XS.icmpYes X109.here hx rfl (pc0 := 22) (pc' := 92) rfl (hb hby d7_22) rfl (flt (by decide : ¬ ((4 : Int32) < (4 : Int32)))).2.1 (by decide) (by decide) k)
        show Goes p e below _ (sF T109 m 92 #[rv sy, iv (4 : Int32), rv co, rv ob1, iv (0 : Int32), .val (.long (0 : Int64)), .second, iv (4 : Int32)] [])
        have t2 : (lg2 b0 b1) = (0 : Int32) := by simp only [lg2]; (first | (simp [hq01_4, hq02_64, hq03_98]; done) | (simp_all; done) | grind)
        have t3 : (lg3 b0 b1 b2) = (0 : Int32) := by simp only [lg3]; (first | (simp [hq01_4, hq02_64, hq03_98]; done) | (simp_all; done) | grind)
        have t4 : (lg4 b0 b1 b2 b3) = (0 : Int32) := by simp only [lg4]; (first | (simp [hq01_4, hq02_64, hq03_98]; done) | (simp_all; done) | grind)
        rw [show ([(.int (-1 : Int32)), (.int (0 : Int32)), (.int (0 : Int32)), (.int (0 : Int32)), (.int (0 : Int32))] : List Value) = [(.int (-1 : Int32)), (.int (0 : Int32)), (.int (lg2 b0 b1)), (.int (lg3 b0 b1 b2)), (.int (lg4 b0 b1 b2 b3))] from by rw [t2, t3, t4]] at V_109
        have K_110 := ((((((Keep.refl h0 [co]).ext E1).wr W3 (Or.inr sz_ob1)).wr W63 (Or.inr sz_ob1)).wr W97 (Or.inr sz_ob1)).wr W109 (Or.inr sz_ob1))
        have F_co_count_111 := (((((F_count.ext E1).other W3 (Or.inl ne_co_ob1)).other W63 (Or.inl ne_co_ob1)).other W97 (Or.inl ne_co_ob1)).other W109 (Or.inl ne_co_ob1))
        have E_co_112 := (((((E_co.ext E1).wr W3).wr W63).wr W97).wr W109)
        exact bu92_5 h0 sy co ob1 k1 b0 b1 b2 b3 b4 (0 : Int32) (0 : Int64) (4 : Int32) X109 hx hZ hw hby hlk hret hml hown e109 N109 Zs109 K_110 V_109 F_co_count_111 E_co_112 ne_co_ob1 g_co sz_ob1 (by decide) (by decide)
theorem ef_sh (m : MethodId) (x0 : Addr) (x1 : Addr) : entryFrame m #[(.ref x0), (.ref x1)] 2 = mkF m 0 #[rv x0, rv x1] [] := by first | (simp [entryFrame, mkF, argsToLocals, Value.category]; done) | rfl
def QSh0 (Z : State) (co : Addr)  (h0 : Heap) (n0 : Nat) (v : Option Value) (h : Heap) (L : List Loc) : Prop := ∃ (r : Addr) (kr : ClassId) (q : Int64), v = some (.ref r) ∧ Fr n0 L ∧ Keep h0 h [co] ∧ h0.size ≤ r ∧ Arv Z h r kr .int (0 : Int32) [] (.int (0 : Int32)) ∧ Fld Z h co "com/example/borderline/borderline/Comparisons" "count" "J" (.long q) ∧ ¬ (lcmpW q ((0 : Int32).toInt64)) < 0 ∧ ¬ (0 : Int32) < (lcmpW q ((0 : Int32).toInt64))
theorem d3_0 : decode prog_7_method_3_code 0 = .ok (.aload_n 0, 1) := by decide +kernel
theorem d3_1 : decode prog_7_method_3_code 1 = .ok (.arraylength, 1) := by decide +kernel
theorem d3_2 : decode prog_7_method_3_code 2 = .ok (.ifCond .ne 9, 3) := by decide +kernel
theorem d3_5 : decode prog_7_method_3_code 5 = .ok (.iconst 0, 1) := by decide +kernel
theorem d3_6 : decode prog_7_method_3_code 6 = .ok (.newarray .int, 2) := by decide +kernel
theorem d3_8 : decode prog_7_method_3_code 8 = .ok (.goto 15, 3) := by decide +kernel
theorem d3_23 : decode prog_7_method_3_code 23 = .ok (.areturn, 1) := by decide +kernel
set_option maxRecDepth 65536 in
set_option maxHeartbeats 40000000 in
theorem rmSh0 (l : Launch) (Z : State) (a0 : Array Value) (hw : ∀ d ∈ tables_1, d.before a0 Z = true) (ws : List Jvm.Cond) (pa : Addr) (co : Addr) (cK : ClassId) (one : Option Addr) (kp : ClassId) (h0 : Heap) (n0 : Nat) (Z0 : n0 ≤ h0.size) (hSame : Z.sameButNew Z [] 0 0) (hLam : Z.lambdaAt? symN 1 30 sgm = some (cK, one)) (V_pa : Arv Z h0 pa kp .byte (0 : Int32) [] (.int (0 : Int32))) (F_count : Fld Z h0 co "com/example/borderline/borderline/Comparisons" "count" "J" (.long (0 : Int64))) (E_co : Exa Z h0 co "com/example/borderline/borderline/Comparisons") (g_co : n0 ≤ co) :
    MetFree l (⟨"com/example/borderline/borderline/BorderTable", "shifted", "([BLcom/example/borderline/borderline/Comparisons;)[I"⟩ : MethodName) (head1 (Jvm.Cond.code (⟨"com/example/borderline/borderline/BorderTable", "shifted", "([BLcom/example/borderline/borderline/Comparisons;)[I"⟩ : MethodName) prog_7_method_3_code 2 (some (.array .int)) :: ws) ({ frames := 3, cells := 1, slots := 1, locals := 3085 } : Room)) (fun a U => a = #[(.ref pa), (.ref co)] ∧ Z.WarmedH U.vm ∧ U.heap = h0) (fun _ _ _ _ _ => True) (fun _ U o U' => ∃ v L, o = .returned v ∧ QSh0 Z co  h0 n0 v U'.heap L ∧ FrameEnd U o U' L ({ frames := 3, cells := 1, slots := 1, locals := 3085 } : Room).cells ({ frames := 3, cells := 1, slots := 1, locals := 3085 } : Room).slots) := by
  refine MetFree.of_bodySF (plainFor_of_name pn_com_example_borderline_borderline_BorderTable) hisR ?_
  intro p e s m args below meth c s₁ Bd hml0 hP hK
  obtain ⟨rfl, hZH, hh⟩ := hP
  have hZ : Z.Warmed39 s.vm := hZH.wide
  have hx := Bd.exec
  have hby := Bd.bytes
  have hlk : meth.locks = false := BodyLoose.notSynchronized Bd
  have hml : c.maxLocals = 2 := hml0
  have hown : s.vm.findClass "com/example/borderline/borderline/BorderTable" = some m.cls := findClass_of_methodNamed Bd.named
  have hnm := (name_of_methodNamed Bd.named Bd.method).1
  have X0 : Stand p l e ({ frames := 3, cells := 1, slots := 1, locals := 3085 } : Room) s m #[(.ref pa), (.ref co)] below meth c s₁ [] 0 0 := Stand.of_body Bd
  have e0 : s₁.heap = h0 := by rw [← hh, Bd.state]; rfl
  have N0 := Fr.nil n0
  have hret := Bd.returns
  show Goes p e below (fun o U' => ∃ v L, o = .returned v ∧ QSh0 Z co  h0 n0 v U'.heap L ∧ FrameEnd s o U' L ({ frames := 3, cells := 1, slots := 1, locals := 3085 } : Room).cells ({ frames := 3, cells := 1, slots := 1, locals := 3085 } : Room).slots) (s₁.setTop (entryFrame m #[(.ref pa), (.ref co)] 2))
  refine Goes.step ?_ (fun _ k => castTop (ef_sh m pa co) k)
  show Goes p e below _ (sF s₁ m 0 #[rv pa, rv co] [])
  refine Goes.step ?_ (fun _ k => XS.aloadN X0.here hx rfl (hb hby d3_0) rfl rfl k)
  show Goes p e below _ (sF s₁ m 1 #[rv pa, rv co] [(.ref pa)])
  obtain ⟨cl1, Ar1, q1, S1, N_1, H1, G1⟩ := id V_pa
  refine Goes.step ?_ (fun _ k => X0.arraylength hx (by rw [e0]; exact Ar1.1) (State.isArrayOf_alike hZ.alike Ar1.2.1) (g := (mkF m 1 #[rv pa, rv co] [(.ref pa)])) rfl rfl (hb hby d3_1) _ k)
  rw [len_of S1 N_1]
  show Goes p e below _ (sF s₁ m 2 #[rv pa, rv co] [(.int (0 : Int32))])
  refine Goes.step ?_ (fun _ k => XS.ifNo X0.here hx rfl (hb hby d3_2) rfl ((if0 _ _).trans (teq (by decide : (0 : Int32) = (0 : Int32))).2) k)
  show Goes p e below _ (sF s₁ m 5 #[rv pa, rv co] [])
  refine Goes.step ?_ (fun _ k => XS.iconst X0.here hx rfl (hb hby d3_5) k)
  show Goes p e below _ (sF s₁ m 6 #[rv pa, rv co] [(.int (0 : Int32))])
  obtain ⟨T2, h2, k2, X2, e2, E2, A2, st2⟩ := newP X0 hx hZ (hw _ (List.mem_of_getElem? (i := 15) rfl)) e0 (g := (mkF m 6 #[rv pa, rv co] [(.int (0 : Int32))])) rfl (hb hby d3_6) rfl (by decide) (cap := 0) (by decide) (by decide) (by decide) (by decide)
  obtain ⟨ob2, g2⟩ : ∃ z, z = h0.size := ⟨_, rfl⟩
  rw [← g2] at A2 st2
  have g_ob2 : n0 ≤ ob2 := Nat.le_trans Z0 (Nat.le_of_eq g2.symm)
  have sz_ob2 : h0.size ≤ ob2 := Nat.le_trans (Keep.refl h0 [co]).1 (Nat.le_of_eq g2.symm)
  have ne_pa_ob2 : pa ≠ ob2 := Nat.ne_of_lt (Nat.lt_of_lt_of_le V_pa.lt (Nat.le_of_eq g2.symm))
  have ne_co_ob2 : co ≠ ob2 := Nat.ne_of_lt (Nat.lt_of_lt_of_le F_count.lt (Nat.le_of_eq g2.symm))
  have Zs2 : n0 ≤ h2.size := Nat.le_trans Z0 E2.1
  refine Goes.step ?_ st2
  have V_ob2 : Arv Z h2 ob2 k2 .int (0 : Int32) [] (.int (0 : Int32)) := Arv.new A2 (by decide)
  show Goes p e below _ (sF T2 m 8 #[rv pa, rv co] [(.ref ob2)])
  refine Goes.step ?_ (fun _ k => XS.goto X2.here hx rfl (pc0 := 8) (pc' := 23) rfl (hb hby d3_8) (by decide) (by decide) k)
  show Goes p e below _ (sF T2 m 23 #[rv pa, rv co] [(.ref ob2)])
  refine own_out X2 hx hlk hret rfl (Or.inr (Or.inr (Or.inr (Or.inr ⟨rfl, rfl, rfl⟩)))) (hb hby d3_23) ?_ (by decide) (by decide)
  show QSh0 Z co  h0 n0 _ T2.heap _
  rw [e2]
  exact ⟨ob2, k2, (0 : Int64), rfl, N0, ((Keep.refl h0 [co]).ext E2), sz_ob2, V_ob2, (F_count.ext E2), by decide, by decide⟩
def QSh1 (Z : State) (co : Addr) (b0 : Int32) (h0 : Heap) (n0 : Nat) (v : Option Value) (h : Heap) (L : List Loc) : Prop := ∃ (r : Addr) (kr : ClassId) (q : Int64), v = some (.ref r) ∧ Fr n0 L ∧ Keep h0 h [co] ∧ h0.size ≤ r ∧ Arv Z h r kr .int (1 : Int32) [(.int (-1 : Int32))] (.int (0 : Int32)) ∧ Fld Z h co "com/example/borderline/borderline/Comparisons" "count" "J" (.long q) ∧ ¬ (lcmpW q ((0 : Int32).toInt64)) < 0 ∧ ¬ (0 : Int32) < (lcmpW q ((0 : Int32).toInt64))
theorem d3_11 : decode prog_7_method_3_code 11 = .ok (.aload_n 0, 1) := by decide +kernel
theorem pd__28_5bB_29Lcom_2fexample_2fborderline_2fborderline_2fBorderTable_24Symbols_3b : parseMethodDescriptor "([B)Lcom/example/borderline/borderline/BorderTable$Symbols;" = some ⟨[(.array .byte)], some (.object "com/example/borderline/borderline/BorderTable$Symbols")⟩ := by decide +kernel
theorem d3_12 : decode prog_7_method_3_code 12 = .ok (.invokestatic 19, 3) := by decide +kernel
theorem d3_15 : decode prog_7_method_3_code 15 = .ok (.aload_n 0, 1) := by decide +kernel
theorem d3_16 : decode prog_7_method_3_code 16 = .ok (.arraylength, 1) := by decide +kernel
theorem d3_17 : decode prog_7_method_3_code 17 = .ok (.iconst 1, 1) := by decide +kernel
theorem d3_18 : decode prog_7_method_3_code 18 = .ok (.isub, 1) := by decide +kernel
theorem d3_19 : decode prog_7_method_3_code 19 = .ok (.aload_n 1, 1) := by decide +kernel
theorem pd__28Lcom_2fexample_2fborderline_2fborderline_2fBorderTable_24Symbols_3bILcom_2fexample_2fborderline_2fborderline_2fComparisons_3b_29_5bI : parseMethodDescriptor "(Lcom/example/borderline/borderline/BorderTable$Symbols;ILcom/example/borderline/borderline/Comparisons;)[I" = some ⟨[(.object "com/example/borderline/borderline/BorderTable$Symbols"), .int, (.object "com/example/borderline/borderline/Comparisons")], some (.array .int)⟩ := by decide +kernel
theorem d3_20 : decode prog_7_method_3_code 20 = .ok (.invokestatic 23, 3) := by decide +kernel
set_option maxRecDepth 65536 in
set_option maxHeartbeats 40000000 in
theorem rmSh1 (l : Launch) (Z : State) (a0 : Array Value) (hw : ∀ d ∈ tables_1, d.before a0 Z = true) (ws : List Jvm.Cond) (pa : Addr) (co : Addr) (cK : ClassId) (one : Option Addr) (kp : ClassId) (b0 : Int32) (h0 : Heap) (n0 : Nat) (Z0 : n0 ≤ h0.size) (hSame : Z.sameButNew Z [] 0 0) (hLam : Z.lambdaAt? symN 1 30 sgm = some (cK, one)) (V_pa : Arv Z h0 pa kp .byte (1 : Int32) [(.int b0)] (.int (0 : Int32))) (F_count : Fld Z h0 co "com/example/borderline/borderline/Comparisons" "count" "J" (.long (0 : Int64))) (E_co : Exa Z h0 co "com/example/borderline/borderline/Comparisons") (g_co : n0 ≤ co) :
    MetFree l (⟨"com/example/borderline/borderline/BorderTable", "shifted", "([BLcom/example/borderline/borderline/Comparisons;)[I"⟩ : MethodName) (head1 (Jvm.Cond.code (⟨"com/example/borderline/borderline/BorderTable", "shifted", "([BLcom/example/borderline/borderline/Comparisons;)[I"⟩ : MethodName) prog_7_method_3_code 2 (some (.array .int)) :: ws) ({ frames := 3, cells := 2, slots := 2, locals := 3085 } : Room)) (fun a U => a = #[(.ref pa), (.ref co)] ∧ Z.WarmedH U.vm ∧ U.heap = h0) (fun _ _ _ _ _ => True) (fun _ U o U' => ∃ v L, o = .returned v ∧ QSh1 Z co b0 h0 n0 v U'.heap L ∧ FrameEnd U o U' L ({ frames := 3, cells := 2, slots := 2, locals := 3085 } : Room).cells ({ frames := 3, cells := 2, slots := 2, locals := 3085 } : Room).slots) := by
  refine MetFree.of_bodySF (plainFor_of_name pn_com_example_borderline_borderline_BorderTable) hisR ?_
  intro p e s m args below meth c s₁ Bd hml0 hP hK
  obtain ⟨rfl, hZH, hh⟩ := hP
  have hZ : Z.Warmed39 s.vm := hZH.wide
  have hx := Bd.exec
  have hby := Bd.bytes
  have hlk : meth.locks = false := BodyLoose.notSynchronized Bd
  have hml : c.maxLocals = 2 := hml0
  have hown : s.vm.findClass "com/example/borderline/borderline/BorderTable" = some m.cls := findClass_of_methodNamed Bd.named
  have hnm := (name_of_methodNamed Bd.named Bd.method).1
  have X0 : Stand p l e ({ frames := 3, cells := 2, slots := 2, locals := 3085 } : Room) s m #[(.ref pa), (.ref co)] below meth c s₁ [] 0 0 := Stand.of_body Bd
  have e0 : s₁.heap = h0 := by rw [← hh, Bd.state]; rfl
  have N0 := Fr.nil n0
  have hret := Bd.returns
  show Goes p e below (fun o U' => ∃ v L, o = .returned v ∧ QSh1 Z co b0 h0 n0 v U'.heap L ∧ FrameEnd s o U' L ({ frames := 3, cells := 2, slots := 2, locals := 3085 } : Room).cells ({ frames := 3, cells := 2, slots := 2, locals := 3085 } : Room).slots) (s₁.setTop (entryFrame m #[(.ref pa), (.ref co)] 2))
  refine Goes.step ?_ (fun _ k => castTop (ef_sh m pa co) k)
  show Goes p e below _ (sF s₁ m 0 #[rv pa, rv co] [])
  refine Goes.step ?_ (fun _ k => XS.aloadN X0.here hx rfl (hb hby d3_0) rfl rfl k)
  show Goes p e below _ (sF s₁ m 1 #[rv pa, rv co] [(.ref pa)])
  obtain ⟨cl1, Ar1, q1, S1, N_1, H1, G1⟩ := id V_pa
  refine Goes.step ?_ (fun _ k => X0.arraylength hx (by rw [e0]; exact Ar1.1) (State.isArrayOf_alike hZ.alike Ar1.2.1) (g := (mkF m 1 #[rv pa, rv co] [(.ref pa)])) rfl rfl (hb hby d3_1) _ k)
  rw [len_of S1 N_1]
  show Goes p e below _ (sF s₁ m 2 #[rv pa, rv co] [(.int (1 : Int32))])
  refine Goes.step ?_ (fun _ k => XS.ifYes X0.here hx rfl (pc0 := 2) (pc' := 11) rfl (hb hby d3_2) rfl ((if0 _ _).trans (feq (by decide : ¬ ((1 : Int32) = (0 : Int32)))).2) (by decide) (by decide) k)
  show Goes p e below _ (sF s₁ m 11 #[rv pa, rv co] [])
  refine Goes.step ?_ (fun _ k => XS.aloadN X0.here hx rfl (hb hby d3_11) rfl rfl k)
  show Goes p e below _ (sF s₁ m 12 #[rv pa, rv co] [(.ref pa)])
  obtain ⟨_, _, ⟨T2, L2, k2, n2⟩, -, X2, ⟨Lc2, hQ2, l2, y2, z2⟩, st2⟩ := Jvm.LawKit.callS X0 hx (y := (⟨"com/example/borderline/borderline/BorderTable", "symbolsOf", "([B)Lcom/example/borderline/borderline/BorderTable$Symbols;"⟩ : MethodName)) hown (mvT hZ (hw _ (List.mem_of_getElem? (i := 27) rfl))) (mvT hZ (hw _ (List.mem_of_getElem? (i := 28) rfl))) (mvT hZ (hw _ (List.mem_of_getElem? (i := 13) rfl))) (mvT hZ (hw _ (List.mem_of_getElem? (i := 29) rfl))) (by decide) (own_backH (W := 0) (rmSym l Z a0 hw [] pa cK one h0 n0 Z0 hSame hLam) hZH (hw _ (List.mem_of_getElem? (i := 29) rfl)) (hw _ (List.mem_of_getElem? (i := 13) rfl)) (by decide) (by decide)) (g := (mkF m 12 #[rv pa, rv co] [(.ref pa)])) rfl (by rw [hml]; rfl) (argsL := [(.ref pa)]) (rest := []) (lenOf pd__28_5bB_29Lcom_2fexample_2fborderline_2fborderline_2fBorderTable_24Symbols_3b rfl) rfl (by show 2 * 0 + _ ≤ _; exact Nat.le_of_eq rfl) (hb hby d3_12) (fun _ _ => ⟨rfl, e0, (by decide : 0 + 1 ≤ _), (by decide : 0 + 1 ≤ _)⟩)
  dsimp only [Pt.U, Pt.locs, Pt.cells, Pt.slots] at X2 l2 y2 z2 st2 hQ2
  subst l2 y2 z2
  obtain ⟨r2, rfl, N2q, E2, gr2, hsy2⟩ := hQ2
  have N2 := Fr.app N0 N2q
  refine Goes.step ?_ st2
  have Zs2 : n0 ≤ T2.heap.size := Nat.le_trans Z0 E2.1
  show Goes p e below _ (sF T2 m 15 #[rv pa, rv co] [(.ref r2)])
  refine Goes.step ?_ (fun _ k => XS.aloadN X2.here hx rfl (hb hby d3_15) rfl rfl k)
  show Goes p e below _ (sF T2 m 16 #[rv pa, rv co] [(.ref pa), (.ref r2)])
  have V_pa_3 := (V_pa.ext E2)
  obtain ⟨cl4, Ar4, q4, S4, N_4, H4, G4⟩ := id V_pa_3
  refine Goes.step ?_ (fun _ k => X2.arraylength hx Ar4.1 (State.isArrayOf_alike hZ.alike Ar4.2.1) (g := (mkF m 16 #[rv pa, rv co] [(.ref pa), (.ref r2)])) rfl rfl (hb hby d3_16) _ k)
  rw [len_of S4 N_4]
  show Goes p e below _ (sF T2 m 17 #[rv pa, rv co] [(.int (1 : Int32)), (.ref r2)])
  refine Goes.step ?_ (fun _ k => XS.iconst X2.here hx rfl (hb hby d3_17) k)
  show Goes p e below _ (sF T2 m 18 #[rv pa, rv co] [(.int (1 : Int32)), (.int (1 : Int32)), (.ref r2)])
  refine Goes.step ?_ (fun _ k => XS.isub X2.here hx rfl (hb hby d3_18) rfl k)
  show Goes p e below _ (sF T2 m 19 #[rv pa, rv co] [(.int ((1 : Int32) - (1 : Int32))), (.ref r2)])
  rw [show ((1 : Int32) - (1 : Int32)) = (0 : Int32) from by decide]
  show Goes p e below _ (sF T2 m 19 #[rv pa, rv co] [(.int (0 : Int32)), (.ref r2)])
  refine Goes.step ?_ (fun _ k => XS.aloadN X2.here hx rfl (hb hby d3_19) rfl rfl k)
  show Goes p e below _ (sF T2 m 20 #[rv pa, rv co] [(.ref co), (.int (0 : Int32)), (.ref r2)])
  have F_co_count_5 := (F_count.ext E2)
  have E_co_6 := (E_co.ext E2)
  obtain ⟨_, _, ⟨T7, L7, k7, n7⟩, -, X7, ⟨Lc7, hQ7, l7, y7, z7⟩, st7⟩ := Jvm.LawKit.callS X2 hx (y := (⟨"com/example/borderline/borderline/BorderTable", "build", "(Lcom/example/borderline/borderline/BorderTable$Symbols;ILcom/example/borderline/borderline/Comparisons;)[I"⟩ : MethodName)) hown (mvT hZ (hw _ (List.mem_of_getElem? (i := 34) rfl))) (mvT hZ (hw _ (List.mem_of_getElem? (i := 35) rfl))) (mvT hZ (hw _ (List.mem_of_getElem? (i := 13) rfl))) (mvT hZ (hw _ (List.mem_of_getElem? (i := 36) rfl))) (by decide) (own_backH (W := 0) (rmBu1 l Z a0 hw [] r2 co cK one pa kp b0 T2.heap n0 Zs2 hSame hLam hsy2 V_pa_3 F_co_count_5 E_co_6 g_co) hZH (hw _ (List.mem_of_getElem? (i := 36) rfl)) (hw _ (List.mem_of_getElem? (i := 13) rfl)) (by decide) (by decide)) (g := (mkF m 20 #[rv pa, rv co] [(.ref co), (.int (0 : Int32)), (.ref r2)])) rfl (by rw [hml]; rfl) (argsL := [(.ref r2), (.int (0 : Int32)), (.ref co)]) (rest := []) (lenOf pd__28Lcom_2fexample_2fborderline_2fborderline_2fBorderTable_24Symbols_3bILcom_2fexample_2fborderline_2fborderline_2fComparisons_3b_29_5bI rfl) rfl (by show 2 * 0 + _ ≤ _; exact Nat.le_of_eq rfl) (hb hby d3_20) (fun _ _ => ⟨rfl, rfl, (by decide : 0 + 1 + 1 ≤ _), (by decide : 0 + 1 + 1 ≤ _)⟩)
  dsimp only [Pt.U, Pt.locs, Pt.cells, Pt.slots] at X7 l7 y7 z7 st7 hQ7
  subst l7 y7 z7
  obtain ⟨u7, ku7, q7, rfl, N7q, K7, gu7, Vu7, G7, l17, l27⟩ := hQ7
  have N7 := Fr.app N2 N7q
  refine Goes.step ?_ st7
  have K_8 := ((Keep.refl h0 [co]).ext E2)
  have KK := K_8.trans K7 (allS (Or.inl (List.mem_of_getElem? (i := 0) rfl)) all0)
  have gr : h0.size ≤ u7 := Nat.le_trans K_8.1 gu7
  show Goes p e below _ (sF T7 m 23 #[rv pa, rv co] [(.ref u7)])
  refine own_out X7 hx hlk hret rfl (Or.inr (Or.inr (Or.inr (Or.inr ⟨rfl, rfl, rfl⟩)))) (hb hby d3_23) ?_ (by decide) (by decide)
  show QSh1 Z co b0 h0 n0 _ T7.heap _
  exact ⟨u7, ku7, q7, rfl, N7, KK, gr, Vu7, G7, l17, l27⟩
def QSh2 (Z : State) (co : Addr) (b0 b1 : Int32) (h0 : Heap) (n0 : Nat) (v : Option Value) (h : Heap) (L : List Loc) : Prop := ∃ (r : Addr) (kr : ClassId) (q : Int64), v = some (.ref r) ∧ Fr n0 L ∧ Keep h0 h [co] ∧ h0.size ≤ r ∧ Arv Z h r kr .int (2 : Int32) [(.int (-1 : Int32)), (.int (0 : Int32))] (.int (0 : Int32)) ∧ Fld Z h co "com/example/borderline/borderline/Comparisons" "count" "J" (.long q) ∧ ¬ (lcmpW q ((0 : Int32).toInt64)) < 0 ∧ ¬ (0 : Int32) < (lcmpW q ((0 : Int32).toInt64))
set_option maxRecDepth 65536 in
set_option maxHeartbeats 40000000 in
theorem rmSh2 (l : Launch) (Z : State) (a0 : Array Value) (hw : ∀ d ∈ tables_1, d.before a0 Z = true) (ws : List Jvm.Cond) (pa : Addr) (co : Addr) (cK : ClassId) (one : Option Addr) (kp : ClassId) (b0 : Int32) (b1 : Int32) (h0 : Heap) (n0 : Nat) (Z0 : n0 ≤ h0.size) (hSame : Z.sameButNew Z [] 0 0) (hLam : Z.lambdaAt? symN 1 30 sgm = some (cK, one)) (V_pa : Arv Z h0 pa kp .byte (2 : Int32) [(.int b0), (.int b1)] (.int (0 : Int32))) (F_count : Fld Z h0 co "com/example/borderline/borderline/Comparisons" "count" "J" (.long (0 : Int64))) (E_co : Exa Z h0 co "com/example/borderline/borderline/Comparisons") (g_co : n0 ≤ co) :
    MetFree l (⟨"com/example/borderline/borderline/BorderTable", "shifted", "([BLcom/example/borderline/borderline/Comparisons;)[I"⟩ : MethodName) (head1 (Jvm.Cond.code (⟨"com/example/borderline/borderline/BorderTable", "shifted", "([BLcom/example/borderline/borderline/Comparisons;)[I"⟩ : MethodName) prog_7_method_3_code 2 (some (.array .int)) :: ws) ({ frames := 3, cells := 2, slots := 3, locals := 3085 } : Room)) (fun a U => a = #[(.ref pa), (.ref co)] ∧ Z.WarmedH U.vm ∧ U.heap = h0) (fun _ _ _ _ _ => True) (fun _ U o U' => ∃ v L, o = .returned v ∧ QSh2 Z co b0 b1 h0 n0 v U'.heap L ∧ FrameEnd U o U' L ({ frames := 3, cells := 2, slots := 3, locals := 3085 } : Room).cells ({ frames := 3, cells := 2, slots := 3, locals := 3085 } : Room).slots) := by
  refine MetFree.of_bodySF (plainFor_of_name pn_com_example_borderline_borderline_BorderTable) hisR ?_
  intro p e s m args below meth c s₁ Bd hml0 hP hK
  obtain ⟨rfl, hZH, hh⟩ := hP
  have hZ : Z.Warmed39 s.vm := hZH.wide
  have hx := Bd.exec
  have hby := Bd.bytes
  have hlk : meth.locks = false := BodyLoose.notSynchronized Bd
  have hml : c.maxLocals = 2 := hml0
  have hown : s.vm.findClass "com/example/borderline/borderline/BorderTable" = some m.cls := findClass_of_methodNamed Bd.named
  have hnm := (name_of_methodNamed Bd.named Bd.method).1
  have X0 : Stand p l e ({ frames := 3, cells := 2, slots := 3, locals := 3085 } : Room) s m #[(.ref pa), (.ref co)] below meth c s₁ [] 0 0 := Stand.of_body Bd
  have e0 : s₁.heap = h0 := by rw [← hh, Bd.state]; rfl
  have N0 := Fr.nil n0
  have hret := Bd.returns
  show Goes p e below (fun o U' => ∃ v L, o = .returned v ∧ QSh2 Z co b0 b1 h0 n0 v U'.heap L ∧ FrameEnd s o U' L ({ frames := 3, cells := 2, slots := 3, locals := 3085 } : Room).cells ({ frames := 3, cells := 2, slots := 3, locals := 3085 } : Room).slots) (s₁.setTop (entryFrame m #[(.ref pa), (.ref co)] 2))
  refine Goes.step ?_ (fun _ k => castTop (ef_sh m pa co) k)
  show Goes p e below _ (sF s₁ m 0 #[rv pa, rv co] [])
  refine Goes.step ?_ (fun _ k => XS.aloadN X0.here hx rfl (hb hby d3_0) rfl rfl k)
  show Goes p e below _ (sF s₁ m 1 #[rv pa, rv co] [(.ref pa)])
  obtain ⟨cl1, Ar1, q1, S1, N_1, H1, G1⟩ := id V_pa
  refine Goes.step ?_ (fun _ k => X0.arraylength hx (by rw [e0]; exact Ar1.1) (State.isArrayOf_alike hZ.alike Ar1.2.1) (g := (mkF m 1 #[rv pa, rv co] [(.ref pa)])) rfl rfl (hb hby d3_1) _ k)
  rw [len_of S1 N_1]
  show Goes p e below _ (sF s₁ m 2 #[rv pa, rv co] [(.int (2 : Int32))])
  refine Goes.step ?_ (fun _ k => XS.ifYes X0.here hx rfl (pc0 := 2) (pc' := 11) rfl (hb hby d3_2) rfl ((if0 _ _).trans (feq (by decide : ¬ ((2 : Int32) = (0 : Int32)))).2) (by decide) (by decide) k)
  show Goes p e below _ (sF s₁ m 11 #[rv pa, rv co] [])
  refine Goes.step ?_ (fun _ k => XS.aloadN X0.here hx rfl (hb hby d3_11) rfl rfl k)
  show Goes p e below _ (sF s₁ m 12 #[rv pa, rv co] [(.ref pa)])
  obtain ⟨_, _, ⟨T2, L2, k2, n2⟩, -, X2, ⟨Lc2, hQ2, l2, y2, z2⟩, st2⟩ := Jvm.LawKit.callS X0 hx (y := (⟨"com/example/borderline/borderline/BorderTable", "symbolsOf", "([B)Lcom/example/borderline/borderline/BorderTable$Symbols;"⟩ : MethodName)) hown (mvT hZ (hw _ (List.mem_of_getElem? (i := 27) rfl))) (mvT hZ (hw _ (List.mem_of_getElem? (i := 28) rfl))) (mvT hZ (hw _ (List.mem_of_getElem? (i := 13) rfl))) (mvT hZ (hw _ (List.mem_of_getElem? (i := 29) rfl))) (by decide) (own_backH (W := 0) (rmSym l Z a0 hw [] pa cK one h0 n0 Z0 hSame hLam) hZH (hw _ (List.mem_of_getElem? (i := 29) rfl)) (hw _ (List.mem_of_getElem? (i := 13) rfl)) (by decide) (by decide)) (g := (mkF m 12 #[rv pa, rv co] [(.ref pa)])) rfl (by rw [hml]; rfl) (argsL := [(.ref pa)]) (rest := []) (lenOf pd__28_5bB_29Lcom_2fexample_2fborderline_2fborderline_2fBorderTable_24Symbols_3b rfl) rfl (by show 2 * 0 + _ ≤ _; exact Nat.le_of_eq rfl) (hb hby d3_12) (fun _ _ => ⟨rfl, e0, (by decide : 0 + 1 ≤ _), (by decide : 0 + 1 ≤ _)⟩)
  dsimp only [Pt.U, Pt.locs, Pt.cells, Pt.slots] at X2 l2 y2 z2 st2 hQ2
  subst l2 y2 z2
  obtain ⟨r2, rfl, N2q, E2, gr2, hsy2⟩ := hQ2
  have N2 := Fr.app N0 N2q
  refine Goes.step ?_ st2
  have Zs2 : n0 ≤ T2.heap.size := Nat.le_trans Z0 E2.1
  show Goes p e below _ (sF T2 m 15 #[rv pa, rv co] [(.ref r2)])
  refine Goes.step ?_ (fun _ k => XS.aloadN X2.here hx rfl (hb hby d3_15) rfl rfl k)
  show Goes p e below _ (sF T2 m 16 #[rv pa, rv co] [(.ref pa), (.ref r2)])
  have V_pa_3 := (V_pa.ext E2)
  obtain ⟨cl4, Ar4, q4, S4, N_4, H4, G4⟩ := id V_pa_3
  refine Goes.step ?_ (fun _ k => X2.arraylength hx Ar4.1 (State.isArrayOf_alike hZ.alike Ar4.2.1) (g := (mkF m 16 #[rv pa, rv co] [(.ref pa), (.ref r2)])) rfl rfl (hb hby d3_16) _ k)
  rw [len_of S4 N_4]
  show Goes p e below _ (sF T2 m 17 #[rv pa, rv co] [(.int (2 : Int32)), (.ref r2)])
  refine Goes.step ?_ (fun _ k => XS.iconst X2.here hx rfl (hb hby d3_17) k)
  show Goes p e below _ (sF T2 m 18 #[rv pa, rv co] [(.int (1 : Int32)), (.int (2 : Int32)), (.ref r2)])
  refine Goes.step ?_ (fun _ k => XS.isub X2.here hx rfl (hb hby d3_18) rfl k)
  show Goes p e below _ (sF T2 m 19 #[rv pa, rv co] [(.int ((2 : Int32) - (1 : Int32))), (.ref r2)])
  rw [show ((2 : Int32) - (1 : Int32)) = (1 : Int32) from by decide]
  show Goes p e below _ (sF T2 m 19 #[rv pa, rv co] [(.int (1 : Int32)), (.ref r2)])
  refine Goes.step ?_ (fun _ k => XS.aloadN X2.here hx rfl (hb hby d3_19) rfl rfl k)
  show Goes p e below _ (sF T2 m 20 #[rv pa, rv co] [(.ref co), (.int (1 : Int32)), (.ref r2)])
  have F_co_count_5 := (F_count.ext E2)
  have E_co_6 := (E_co.ext E2)
  obtain ⟨_, _, ⟨T7, L7, k7, n7⟩, -, X7, ⟨Lc7, hQ7, l7, y7, z7⟩, st7⟩ := Jvm.LawKit.callS X2 hx (y := (⟨"com/example/borderline/borderline/BorderTable", "build", "(Lcom/example/borderline/borderline/BorderTable$Symbols;ILcom/example/borderline/borderline/Comparisons;)[I"⟩ : MethodName)) hown (mvT hZ (hw _ (List.mem_of_getElem? (i := 34) rfl))) (mvT hZ (hw _ (List.mem_of_getElem? (i := 35) rfl))) (mvT hZ (hw _ (List.mem_of_getElem? (i := 13) rfl))) (mvT hZ (hw _ (List.mem_of_getElem? (i := 36) rfl))) (by decide) (own_backH (W := 0) (rmBu2 l Z a0 hw [] r2 co cK one pa kp b0 b1 T2.heap n0 Zs2 hSame hLam hsy2 V_pa_3 F_co_count_5 E_co_6 g_co) hZH (hw _ (List.mem_of_getElem? (i := 36) rfl)) (hw _ (List.mem_of_getElem? (i := 13) rfl)) (by decide) (by decide)) (g := (mkF m 20 #[rv pa, rv co] [(.ref co), (.int (1 : Int32)), (.ref r2)])) rfl (by rw [hml]; rfl) (argsL := [(.ref r2), (.int (1 : Int32)), (.ref co)]) (rest := []) (lenOf pd__28Lcom_2fexample_2fborderline_2fborderline_2fBorderTable_24Symbols_3bILcom_2fexample_2fborderline_2fborderline_2fComparisons_3b_29_5bI rfl) rfl (by show 2 * 0 + _ ≤ _; exact Nat.le_of_eq rfl) (hb hby d3_20) (fun _ _ => ⟨rfl, rfl, (by decide : 0 + 1 + 1 ≤ _), (by decide : 0 + 1 + 2 ≤ _)⟩)
  dsimp only [Pt.U, Pt.locs, Pt.cells, Pt.slots] at X7 l7 y7 z7 st7 hQ7
  subst l7 y7 z7
  obtain ⟨u7, ku7, q7, rfl, N7q, K7, gu7, Vu7, G7, l17, l27⟩ := hQ7
  have N7 := Fr.app N2 N7q
  refine Goes.step ?_ st7
  have K_8 := ((Keep.refl h0 [co]).ext E2)
  have KK := K_8.trans K7 (allS (Or.inl (List.mem_of_getElem? (i := 0) rfl)) all0)
  have gr : h0.size ≤ u7 := Nat.le_trans K_8.1 gu7
  show Goes p e below _ (sF T7 m 23 #[rv pa, rv co] [(.ref u7)])
  refine own_out X7 hx hlk hret rfl (Or.inr (Or.inr (Or.inr (Or.inr ⟨rfl, rfl, rfl⟩)))) (hb hby d3_23) ?_ (by decide) (by decide)
  show QSh2 Z co b0 b1 h0 n0 _ T7.heap _
  exact ⟨u7, ku7, q7, rfl, N7, KK, gr, Vu7, G7, l17, l27⟩
def QSh3 (Z : State) (co : Addr) (b0 b1 b2 : Int32) (h0 : Heap) (n0 : Nat) (v : Option Value) (h : Heap) (L : List Loc) : Prop := ∃ (r : Addr) (kr : ClassId) (q : Int64), v = some (.ref r) ∧ Fr n0 L ∧ Keep h0 h [co] ∧ h0.size ≤ r ∧ Arv Z h r kr .int (3 : Int32) [(.int (-1 : Int32)), (.int (0 : Int32)), (.int (lg2 b0 b1))] (.int (0 : Int32)) ∧ Fld Z h co "com/example/borderline/borderline/Comparisons" "count" "J" (.long q) ∧ ¬ (lcmpW q ((1 : Int32).toInt64)) < 0 ∧ ¬ (0 : Int32) < (lcmpW q ((2 : Int32).toInt64))
set_option maxRecDepth 65536 in
set_option maxHeartbeats 40000000 in
theorem rmSh3 (l : Launch) (Z : State) (a0 : Array Value) (hw : ∀ d ∈ tables_1, d.before a0 Z = true) (ws : List Jvm.Cond) (pa : Addr) (co : Addr) (cK : ClassId) (one : Option Addr) (kp : ClassId) (b0 : Int32) (b1 : Int32) (b2 : Int32) (h0 : Heap) (n0 : Nat) (Z0 : n0 ≤ h0.size) (hSame : Z.sameButNew Z [] 0 0) (hLam : Z.lambdaAt? symN 1 30 sgm = some (cK, one)) (V_pa : Arv Z h0 pa kp .byte (3 : Int32) [(.int b0), (.int b1), (.int b2)] (.int (0 : Int32))) (F_count : Fld Z h0 co "com/example/borderline/borderline/Comparisons" "count" "J" (.long (0 : Int64))) (E_co : Exa Z h0 co "com/example/borderline/borderline/Comparisons") (g_co : n0 ≤ co) :
    MetFree l (⟨"com/example/borderline/borderline/BorderTable", "shifted", "([BLcom/example/borderline/borderline/Comparisons;)[I"⟩ : MethodName) (head1 (Jvm.Cond.code (⟨"com/example/borderline/borderline/BorderTable", "shifted", "([BLcom/example/borderline/borderline/Comparisons;)[I"⟩ : MethodName) prog_7_method_3_code 2 (some (.array .int)) :: ws) ({ frames := 3, cells := 2, slots := 4, locals := 3085 } : Room)) (fun a U => a = #[(.ref pa), (.ref co)] ∧ Z.WarmedH U.vm ∧ U.heap = h0) (fun _ _ _ _ _ => True) (fun _ U o U' => ∃ v L, o = .returned v ∧ QSh3 Z co b0 b1 b2 h0 n0 v U'.heap L ∧ FrameEnd U o U' L ({ frames := 3, cells := 2, slots := 4, locals := 3085 } : Room).cells ({ frames := 3, cells := 2, slots := 4, locals := 3085 } : Room).slots) := by
  refine MetFree.of_bodySF (plainFor_of_name pn_com_example_borderline_borderline_BorderTable) hisR ?_
  intro p e s m args below meth c s₁ Bd hml0 hP hK
  obtain ⟨rfl, hZH, hh⟩ := hP
  have hZ : Z.Warmed39 s.vm := hZH.wide
  have hx := Bd.exec
  have hby := Bd.bytes
  have hlk : meth.locks = false := BodyLoose.notSynchronized Bd
  have hml : c.maxLocals = 2 := hml0
  have hown : s.vm.findClass "com/example/borderline/borderline/BorderTable" = some m.cls := findClass_of_methodNamed Bd.named
  have hnm := (name_of_methodNamed Bd.named Bd.method).1
  have X0 : Stand p l e ({ frames := 3, cells := 2, slots := 4, locals := 3085 } : Room) s m #[(.ref pa), (.ref co)] below meth c s₁ [] 0 0 := Stand.of_body Bd
  have e0 : s₁.heap = h0 := by rw [← hh, Bd.state]; rfl
  have N0 := Fr.nil n0
  have hret := Bd.returns
  show Goes p e below (fun o U' => ∃ v L, o = .returned v ∧ QSh3 Z co b0 b1 b2 h0 n0 v U'.heap L ∧ FrameEnd s o U' L ({ frames := 3, cells := 2, slots := 4, locals := 3085 } : Room).cells ({ frames := 3, cells := 2, slots := 4, locals := 3085 } : Room).slots) (s₁.setTop (entryFrame m #[(.ref pa), (.ref co)] 2))
  refine Goes.step ?_ (fun _ k => castTop (ef_sh m pa co) k)
  show Goes p e below _ (sF s₁ m 0 #[rv pa, rv co] [])
  refine Goes.step ?_ (fun _ k => XS.aloadN X0.here hx rfl (hb hby d3_0) rfl rfl k)
  show Goes p e below _ (sF s₁ m 1 #[rv pa, rv co] [(.ref pa)])
  obtain ⟨cl1, Ar1, q1, S1, N_1, H1, G1⟩ := id V_pa
  refine Goes.step ?_ (fun _ k => X0.arraylength hx (by rw [e0]; exact Ar1.1) (State.isArrayOf_alike hZ.alike Ar1.2.1) (g := (mkF m 1 #[rv pa, rv co] [(.ref pa)])) rfl rfl (hb hby d3_1) _ k)
  rw [len_of S1 N_1]
  show Goes p e below _ (sF s₁ m 2 #[rv pa, rv co] [(.int (3 : Int32))])
  refine Goes.step ?_ (fun _ k => XS.ifYes X0.here hx rfl (pc0 := 2) (pc' := 11) rfl (hb hby d3_2) rfl ((if0 _ _).trans (feq (by decide : ¬ ((3 : Int32) = (0 : Int32)))).2) (by decide) (by decide) k)
  show Goes p e below _ (sF s₁ m 11 #[rv pa, rv co] [])
  refine Goes.step ?_ (fun _ k => XS.aloadN X0.here hx rfl (hb hby d3_11) rfl rfl k)
  show Goes p e below _ (sF s₁ m 12 #[rv pa, rv co] [(.ref pa)])
  obtain ⟨_, _, ⟨T2, L2, k2, n2⟩, -, X2, ⟨Lc2, hQ2, l2, y2, z2⟩, st2⟩ := Jvm.LawKit.callS X0 hx (y := (⟨"com/example/borderline/borderline/BorderTable", "symbolsOf", "([B)Lcom/example/borderline/borderline/BorderTable$Symbols;"⟩ : MethodName)) hown (mvT hZ (hw _ (List.mem_of_getElem? (i := 27) rfl))) (mvT hZ (hw _ (List.mem_of_getElem? (i := 28) rfl))) (mvT hZ (hw _ (List.mem_of_getElem? (i := 13) rfl))) (mvT hZ (hw _ (List.mem_of_getElem? (i := 29) rfl))) (by decide) (own_backH (W := 0) (rmSym l Z a0 hw [] pa cK one h0 n0 Z0 hSame hLam) hZH (hw _ (List.mem_of_getElem? (i := 29) rfl)) (hw _ (List.mem_of_getElem? (i := 13) rfl)) (by decide) (by decide)) (g := (mkF m 12 #[rv pa, rv co] [(.ref pa)])) rfl (by rw [hml]; rfl) (argsL := [(.ref pa)]) (rest := []) (lenOf pd__28_5bB_29Lcom_2fexample_2fborderline_2fborderline_2fBorderTable_24Symbols_3b rfl) rfl (by show 2 * 0 + _ ≤ _; exact Nat.le_of_eq rfl) (hb hby d3_12) (fun _ _ => ⟨rfl, e0, (by decide : 0 + 1 ≤ _), (by decide : 0 + 1 ≤ _)⟩)
  dsimp only [Pt.U, Pt.locs, Pt.cells, Pt.slots] at X2 l2 y2 z2 st2 hQ2
  subst l2 y2 z2
  obtain ⟨r2, rfl, N2q, E2, gr2, hsy2⟩ := hQ2
  have N2 := Fr.app N0 N2q
  refine Goes.step ?_ st2
  have Zs2 : n0 ≤ T2.heap.size := Nat.le_trans Z0 E2.1
  show Goes p e below _ (sF T2 m 15 #[rv pa, rv co] [(.ref r2)])
  refine Goes.step ?_ (fun _ k => XS.aloadN X2.here hx rfl (hb hby d3_15) rfl rfl k)
  show Goes p e below _ (sF T2 m 16 #[rv pa, rv co] [(.ref pa), (.ref r2)])
  have V_pa_3 := (V_pa.ext E2)
  obtain ⟨cl4, Ar4, q4, S4, N_4, H4, G4⟩ := id V_pa_3
  refine Goes.step ?_ (fun _ k => X2.arraylength hx Ar4.1 (State.isArrayOf_alike hZ.alike Ar4.2.1) (g := (mkF m 16 #[rv pa, rv co] [(.ref pa), (.ref r2)])) rfl rfl (hb hby d3_16) _ k)
  rw [len_of S4 N_4]
  show Goes p e below _ (sF T2 m 17 #[rv pa, rv co] [(.int (3 : Int32)), (.ref r2)])
  refine Goes.step ?_ (fun _ k => XS.iconst X2.here hx rfl (hb hby d3_17) k)
  show Goes p e below _ (sF T2 m 18 #[rv pa, rv co] [(.int (1 : Int32)), (.int (3 : Int32)), (.ref r2)])
  refine Goes.step ?_ (fun _ k => XS.isub X2.here hx rfl (hb hby d3_18) rfl k)
  show Goes p e below _ (sF T2 m 19 #[rv pa, rv co] [(.int ((3 : Int32) - (1 : Int32))), (.ref r2)])
  rw [show ((3 : Int32) - (1 : Int32)) = (2 : Int32) from by decide]
  show Goes p e below _ (sF T2 m 19 #[rv pa, rv co] [(.int (2 : Int32)), (.ref r2)])
  refine Goes.step ?_ (fun _ k => XS.aloadN X2.here hx rfl (hb hby d3_19) rfl rfl k)
  show Goes p e below _ (sF T2 m 20 #[rv pa, rv co] [(.ref co), (.int (2 : Int32)), (.ref r2)])
  have F_co_count_5 := (F_count.ext E2)
  have E_co_6 := (E_co.ext E2)
  obtain ⟨_, _, ⟨T7, L7, k7, n7⟩, -, X7, ⟨Lc7, hQ7, l7, y7, z7⟩, st7⟩ := Jvm.LawKit.callS X2 hx (y := (⟨"com/example/borderline/borderline/BorderTable", "build", "(Lcom/example/borderline/borderline/BorderTable$Symbols;ILcom/example/borderline/borderline/Comparisons;)[I"⟩ : MethodName)) hown (mvT hZ (hw _ (List.mem_of_getElem? (i := 34) rfl))) (mvT hZ (hw _ (List.mem_of_getElem? (i := 35) rfl))) (mvT hZ (hw _ (List.mem_of_getElem? (i := 13) rfl))) (mvT hZ (hw _ (List.mem_of_getElem? (i := 36) rfl))) (by decide) (own_backH (W := 0) (rmBu3 l Z a0 hw [] r2 co cK one pa kp b0 b1 b2 T2.heap n0 Zs2 hSame hLam hsy2 V_pa_3 F_co_count_5 E_co_6 g_co) hZH (hw _ (List.mem_of_getElem? (i := 36) rfl)) (hw _ (List.mem_of_getElem? (i := 13) rfl)) (by decide) (by decide)) (g := (mkF m 20 #[rv pa, rv co] [(.ref co), (.int (2 : Int32)), (.ref r2)])) rfl (by rw [hml]; rfl) (argsL := [(.ref r2), (.int (2 : Int32)), (.ref co)]) (rest := []) (lenOf pd__28Lcom_2fexample_2fborderline_2fborderline_2fBorderTable_24Symbols_3bILcom_2fexample_2fborderline_2fborderline_2fComparisons_3b_29_5bI rfl) rfl (by show 2 * 0 + _ ≤ _; exact Nat.le_of_eq rfl) (hb hby d3_20) (fun _ _ => ⟨rfl, rfl, (by decide : 0 + 1 + 1 ≤ _), (by decide : 0 + 1 + 3 ≤ _)⟩)
  dsimp only [Pt.U, Pt.locs, Pt.cells, Pt.slots] at X7 l7 y7 z7 st7 hQ7
  subst l7 y7 z7
  obtain ⟨u7, ku7, q7, rfl, N7q, K7, gu7, Vu7, G7, l17, l27⟩ := hQ7
  have N7 := Fr.app N2 N7q
  refine Goes.step ?_ st7
  have K_8 := ((Keep.refl h0 [co]).ext E2)
  have KK := K_8.trans K7 (allS (Or.inl (List.mem_of_getElem? (i := 0) rfl)) all0)
  have gr : h0.size ≤ u7 := Nat.le_trans K_8.1 gu7
  show Goes p e below _ (sF T7 m 23 #[rv pa, rv co] [(.ref u7)])
  refine own_out X7 hx hlk hret rfl (Or.inr (Or.inr (Or.inr (Or.inr ⟨rfl, rfl, rfl⟩)))) (hb hby d3_23) ?_ (by decide) (by decide)
  show QSh3 Z co b0 b1 b2 h0 n0 _ T7.heap _
  exact ⟨u7, ku7, q7, rfl, N7, KK, gr, Vu7, G7, l17, l27⟩
def QSh4 (Z : State) (co : Addr) (b0 b1 b2 b3 : Int32) (h0 : Heap) (n0 : Nat) (v : Option Value) (h : Heap) (L : List Loc) : Prop := ∃ (r : Addr) (kr : ClassId) (q : Int64), v = some (.ref r) ∧ Fr n0 L ∧ Keep h0 h [co] ∧ h0.size ≤ r ∧ Arv Z h r kr .int (4 : Int32) [(.int (-1 : Int32)), (.int (0 : Int32)), (.int (lg2 b0 b1)), (.int (lg3 b0 b1 b2))] (.int (0 : Int32)) ∧ Fld Z h co "com/example/borderline/borderline/Comparisons" "count" "J" (.long q) ∧ ¬ (lcmpW q ((2 : Int32).toInt64)) < 0 ∧ ¬ (0 : Int32) < (lcmpW q ((4 : Int32).toInt64))
set_option maxRecDepth 65536 in
set_option maxHeartbeats 40000000 in
theorem rmSh4 (l : Launch) (Z : State) (a0 : Array Value) (hw : ∀ d ∈ tables_1, d.before a0 Z = true) (ws : List Jvm.Cond) (pa : Addr) (co : Addr) (cK : ClassId) (one : Option Addr) (kp : ClassId) (b0 : Int32) (b1 : Int32) (b2 : Int32) (b3 : Int32) (h0 : Heap) (n0 : Nat) (Z0 : n0 ≤ h0.size) (hSame : Z.sameButNew Z [] 0 0) (hLam : Z.lambdaAt? symN 1 30 sgm = some (cK, one)) (V_pa : Arv Z h0 pa kp .byte (4 : Int32) [(.int b0), (.int b1), (.int b2), (.int b3)] (.int (0 : Int32))) (F_count : Fld Z h0 co "com/example/borderline/borderline/Comparisons" "count" "J" (.long (0 : Int64))) (E_co : Exa Z h0 co "com/example/borderline/borderline/Comparisons") (g_co : n0 ≤ co) :
    MetFree l (⟨"com/example/borderline/borderline/BorderTable", "shifted", "([BLcom/example/borderline/borderline/Comparisons;)[I"⟩ : MethodName) (head1 (Jvm.Cond.code (⟨"com/example/borderline/borderline/BorderTable", "shifted", "([BLcom/example/borderline/borderline/Comparisons;)[I"⟩ : MethodName) prog_7_method_3_code 2 (some (.array .int)) :: ws) ({ frames := 3, cells := 2, slots := 5, locals := 3085 } : Room)) (fun a U => a = #[(.ref pa), (.ref co)] ∧ Z.WarmedH U.vm ∧ U.heap = h0) (fun _ _ _ _ _ => True) (fun _ U o U' => ∃ v L, o = .returned v ∧ QSh4 Z co b0 b1 b2 b3 h0 n0 v U'.heap L ∧ FrameEnd U o U' L ({ frames := 3, cells := 2, slots := 5, locals := 3085 } : Room).cells ({ frames := 3, cells := 2, slots := 5, locals := 3085 } : Room).slots) := by
  refine MetFree.of_bodySF (plainFor_of_name pn_com_example_borderline_borderline_BorderTable) hisR ?_
  intro p e s m args below meth c s₁ Bd hml0 hP hK
  obtain ⟨rfl, hZH, hh⟩ := hP
  have hZ : Z.Warmed39 s.vm := hZH.wide
  have hx := Bd.exec
  have hby := Bd.bytes
  have hlk : meth.locks = false := BodyLoose.notSynchronized Bd
  have hml : c.maxLocals = 2 := hml0
  have hown : s.vm.findClass "com/example/borderline/borderline/BorderTable" = some m.cls := findClass_of_methodNamed Bd.named
  have hnm := (name_of_methodNamed Bd.named Bd.method).1
  have X0 : Stand p l e ({ frames := 3, cells := 2, slots := 5, locals := 3085 } : Room) s m #[(.ref pa), (.ref co)] below meth c s₁ [] 0 0 := Stand.of_body Bd
  have e0 : s₁.heap = h0 := by rw [← hh, Bd.state]; rfl
  have N0 := Fr.nil n0
  have hret := Bd.returns
  show Goes p e below (fun o U' => ∃ v L, o = .returned v ∧ QSh4 Z co b0 b1 b2 b3 h0 n0 v U'.heap L ∧ FrameEnd s o U' L ({ frames := 3, cells := 2, slots := 5, locals := 3085 } : Room).cells ({ frames := 3, cells := 2, slots := 5, locals := 3085 } : Room).slots) (s₁.setTop (entryFrame m #[(.ref pa), (.ref co)] 2))
  refine Goes.step ?_ (fun _ k => castTop (ef_sh m pa co) k)
  show Goes p e below _ (sF s₁ m 0 #[rv pa, rv co] [])
  refine Goes.step ?_ (fun _ k => XS.aloadN X0.here hx rfl (hb hby d3_0) rfl rfl k)
  show Goes p e below _ (sF s₁ m 1 #[rv pa, rv co] [(.ref pa)])
  obtain ⟨cl1, Ar1, q1, S1, N_1, H1, G1⟩ := id V_pa
  refine Goes.step ?_ (fun _ k => X0.arraylength hx (by rw [e0]; exact Ar1.1) (State.isArrayOf_alike hZ.alike Ar1.2.1) (g := (mkF m 1 #[rv pa, rv co] [(.ref pa)])) rfl rfl (hb hby d3_1) _ k)
  rw [len_of S1 N_1]
  show Goes p e below _ (sF s₁ m 2 #[rv pa, rv co] [(.int (4 : Int32))])
  refine Goes.step ?_ (fun _ k => XS.ifYes X0.here hx rfl (pc0 := 2) (pc' := 11) rfl (hb hby d3_2) rfl ((if0 _ _).trans (feq (by decide : ¬ ((4 : Int32) = (0 : Int32)))).2) (by decide) (by decide) k)
  show Goes p e below _ (sF s₁ m 11 #[rv pa, rv co] [])
  refine Goes.step ?_ (fun _ k => XS.aloadN X0.here hx rfl (hb hby d3_11) rfl rfl k)
  show Goes p e below _ (sF s₁ m 12 #[rv pa, rv co] [(.ref pa)])
  obtain ⟨_, _, ⟨T2, L2, k2, n2⟩, -, X2, ⟨Lc2, hQ2, l2, y2, z2⟩, st2⟩ := Jvm.LawKit.callS X0 hx (y := (⟨"com/example/borderline/borderline/BorderTable", "symbolsOf", "([B)Lcom/example/borderline/borderline/BorderTable$Symbols;"⟩ : MethodName)) hown (mvT hZ (hw _ (List.mem_of_getElem? (i := 27) rfl))) (mvT hZ (hw _ (List.mem_of_getElem? (i := 28) rfl))) (mvT hZ (hw _ (List.mem_of_getElem? (i := 13) rfl))) (mvT hZ (hw _ (List.mem_of_getElem? (i := 29) rfl))) (by decide) (own_backH (W := 0) (rmSym l Z a0 hw [] pa cK one h0 n0 Z0 hSame hLam) hZH (hw _ (List.mem_of_getElem? (i := 29) rfl)) (hw _ (List.mem_of_getElem? (i := 13) rfl)) (by decide) (by decide)) (g := (mkF m 12 #[rv pa, rv co] [(.ref pa)])) rfl (by rw [hml]; rfl) (argsL := [(.ref pa)]) (rest := []) (lenOf pd__28_5bB_29Lcom_2fexample_2fborderline_2fborderline_2fBorderTable_24Symbols_3b rfl) rfl (by show 2 * 0 + _ ≤ _; exact Nat.le_of_eq rfl) (hb hby d3_12) (fun _ _ => ⟨rfl, e0, (by decide : 0 + 1 ≤ _), (by decide : 0 + 1 ≤ _)⟩)
  dsimp only [Pt.U, Pt.locs, Pt.cells, Pt.slots] at X2 l2 y2 z2 st2 hQ2
  subst l2 y2 z2
  obtain ⟨r2, rfl, N2q, E2, gr2, hsy2⟩ := hQ2
  have N2 := Fr.app N0 N2q
  refine Goes.step ?_ st2
  have Zs2 : n0 ≤ T2.heap.size := Nat.le_trans Z0 E2.1
  show Goes p e below _ (sF T2 m 15 #[rv pa, rv co] [(.ref r2)])
  refine Goes.step ?_ (fun _ k => XS.aloadN X2.here hx rfl (hb hby d3_15) rfl rfl k)
  show Goes p e below _ (sF T2 m 16 #[rv pa, rv co] [(.ref pa), (.ref r2)])
  have V_pa_3 := (V_pa.ext E2)
  obtain ⟨cl4, Ar4, q4, S4, N_4, H4, G4⟩ := id V_pa_3
  refine Goes.step ?_ (fun _ k => X2.arraylength hx Ar4.1 (State.isArrayOf_alike hZ.alike Ar4.2.1) (g := (mkF m 16 #[rv pa, rv co] [(.ref pa), (.ref r2)])) rfl rfl (hb hby d3_16) _ k)
  rw [len_of S4 N_4]
  show Goes p e below _ (sF T2 m 17 #[rv pa, rv co] [(.int (4 : Int32)), (.ref r2)])
  refine Goes.step ?_ (fun _ k => XS.iconst X2.here hx rfl (hb hby d3_17) k)
  show Goes p e below _ (sF T2 m 18 #[rv pa, rv co] [(.int (1 : Int32)), (.int (4 : Int32)), (.ref r2)])
  refine Goes.step ?_ (fun _ k => XS.isub X2.here hx rfl (hb hby d3_18) rfl k)
  show Goes p e below _ (sF T2 m 19 #[rv pa, rv co] [(.int ((4 : Int32) - (1 : Int32))), (.ref r2)])
  rw [show ((4 : Int32) - (1 : Int32)) = (3 : Int32) from by decide]
  show Goes p e below _ (sF T2 m 19 #[rv pa, rv co] [(.int (3 : Int32)), (.ref r2)])
  refine Goes.step ?_ (fun _ k => XS.aloadN X2.here hx rfl (hb hby d3_19) rfl rfl k)
  show Goes p e below _ (sF T2 m 20 #[rv pa, rv co] [(.ref co), (.int (3 : Int32)), (.ref r2)])
  have F_co_count_5 := (F_count.ext E2)
  have E_co_6 := (E_co.ext E2)
  obtain ⟨_, _, ⟨T7, L7, k7, n7⟩, -, X7, ⟨Lc7, hQ7, l7, y7, z7⟩, st7⟩ := Jvm.LawKit.callS X2 hx (y := (⟨"com/example/borderline/borderline/BorderTable", "build", "(Lcom/example/borderline/borderline/BorderTable$Symbols;ILcom/example/borderline/borderline/Comparisons;)[I"⟩ : MethodName)) hown (mvT hZ (hw _ (List.mem_of_getElem? (i := 34) rfl))) (mvT hZ (hw _ (List.mem_of_getElem? (i := 35) rfl))) (mvT hZ (hw _ (List.mem_of_getElem? (i := 13) rfl))) (mvT hZ (hw _ (List.mem_of_getElem? (i := 36) rfl))) (by decide) (own_backH (W := 0) (rmBu4 l Z a0 hw [] r2 co cK one pa kp b0 b1 b2 b3 T2.heap n0 Zs2 hSame hLam hsy2 V_pa_3 F_co_count_5 E_co_6 g_co) hZH (hw _ (List.mem_of_getElem? (i := 36) rfl)) (hw _ (List.mem_of_getElem? (i := 13) rfl)) (by decide) (by decide)) (g := (mkF m 20 #[rv pa, rv co] [(.ref co), (.int (3 : Int32)), (.ref r2)])) rfl (by rw [hml]; rfl) (argsL := [(.ref r2), (.int (3 : Int32)), (.ref co)]) (rest := []) (lenOf pd__28Lcom_2fexample_2fborderline_2fborderline_2fBorderTable_24Symbols_3bILcom_2fexample_2fborderline_2fborderline_2fComparisons_3b_29_5bI rfl) rfl (by show 2 * 0 + _ ≤ _; exact Nat.le_of_eq rfl) (hb hby d3_20) (fun _ _ => ⟨rfl, rfl, (by decide : 0 + 1 + 1 ≤ _), (by decide : 0 + 1 + 4 ≤ _)⟩)
  dsimp only [Pt.U, Pt.locs, Pt.cells, Pt.slots] at X7 l7 y7 z7 st7 hQ7
  subst l7 y7 z7
  obtain ⟨u7, ku7, q7, rfl, N7q, K7, gu7, Vu7, G7, l17, l27⟩ := hQ7
  have N7 := Fr.app N2 N7q
  refine Goes.step ?_ st7
  have K_8 := ((Keep.refl h0 [co]).ext E2)
  have KK := K_8.trans K7 (allS (Or.inl (List.mem_of_getElem? (i := 0) rfl)) all0)
  have gr : h0.size ≤ u7 := Nat.le_trans K_8.1 gu7
  show Goes p e below _ (sF T7 m 23 #[rv pa, rv co] [(.ref u7)])
  refine own_out X7 hx hlk hret rfl (Or.inr (Or.inr (Or.inr (Or.inr ⟨rfl, rfl, rfl⟩)))) (hb hby d3_23) ?_ (by decide) (by decide)
  show QSh4 Z co b0 b1 b2 b3 h0 n0 _ T7.heap _
  exact ⟨u7, ku7, q7, rfl, N7, KK, gr, Vu7, G7, l17, l27⟩
def QSh5 (Z : State) (co : Addr) (b0 b1 b2 b3 b4 : Int32) (h0 : Heap) (n0 : Nat) (v : Option Value) (h : Heap) (L : List Loc) : Prop := ∃ (r : Addr) (kr : ClassId) (q : Int64), v = some (.ref r) ∧ Fr n0 L ∧ Keep h0 h [co] ∧ h0.size ≤ r ∧ Arv Z h r kr .int (5 : Int32) [(.int (-1 : Int32)), (.int (0 : Int32)), (.int (lg2 b0 b1)), (.int (lg3 b0 b1 b2)), (.int (lg4 b0 b1 b2 b3))] (.int (0 : Int32)) ∧ Fld Z h co "com/example/borderline/borderline/Comparisons" "count" "J" (.long q) ∧ ¬ (lcmpW q ((3 : Int32).toInt64)) < 0 ∧ ¬ (0 : Int32) < (lcmpW q ((6 : Int32).toInt64))
set_option maxRecDepth 65536 in
set_option maxHeartbeats 40000000 in
theorem rmSh5 (l : Launch) (Z : State) (a0 : Array Value) (hw : ∀ d ∈ tables_1, d.before a0 Z = true) (ws : List Jvm.Cond) (pa : Addr) (co : Addr) (cK : ClassId) (one : Option Addr) (kp : ClassId) (b0 : Int32) (b1 : Int32) (b2 : Int32) (b3 : Int32) (b4 : Int32) (h0 : Heap) (n0 : Nat) (Z0 : n0 ≤ h0.size) (hSame : Z.sameButNew Z [] 0 0) (hLam : Z.lambdaAt? symN 1 30 sgm = some (cK, one)) (V_pa : Arv Z h0 pa kp .byte (5 : Int32) [(.int b0), (.int b1), (.int b2), (.int b3), (.int b4)] (.int (0 : Int32))) (F_count : Fld Z h0 co "com/example/borderline/borderline/Comparisons" "count" "J" (.long (0 : Int64))) (E_co : Exa Z h0 co "com/example/borderline/borderline/Comparisons") (g_co : n0 ≤ co) :
    MetFree l (⟨"com/example/borderline/borderline/BorderTable", "shifted", "([BLcom/example/borderline/borderline/Comparisons;)[I"⟩ : MethodName) (head1 (Jvm.Cond.code (⟨"com/example/borderline/borderline/BorderTable", "shifted", "([BLcom/example/borderline/borderline/Comparisons;)[I"⟩ : MethodName) prog_7_method_3_code 2 (some (.array .int)) :: ws) ({ frames := 3, cells := 2, slots := 6, locals := 3085 } : Room)) (fun a U => a = #[(.ref pa), (.ref co)] ∧ Z.WarmedH U.vm ∧ U.heap = h0) (fun _ _ _ _ _ => True) (fun _ U o U' => ∃ v L, o = .returned v ∧ QSh5 Z co b0 b1 b2 b3 b4 h0 n0 v U'.heap L ∧ FrameEnd U o U' L ({ frames := 3, cells := 2, slots := 6, locals := 3085 } : Room).cells ({ frames := 3, cells := 2, slots := 6, locals := 3085 } : Room).slots) := by
  refine MetFree.of_bodySF (plainFor_of_name pn_com_example_borderline_borderline_BorderTable) hisR ?_
  intro p e s m args below meth c s₁ Bd hml0 hP hK
  obtain ⟨rfl, hZH, hh⟩ := hP
  have hZ : Z.Warmed39 s.vm := hZH.wide
  have hx := Bd.exec
  have hby := Bd.bytes
  have hlk : meth.locks = false := BodyLoose.notSynchronized Bd
  have hml : c.maxLocals = 2 := hml0
  have hown : s.vm.findClass "com/example/borderline/borderline/BorderTable" = some m.cls := findClass_of_methodNamed Bd.named
  have hnm := (name_of_methodNamed Bd.named Bd.method).1
  have X0 : Stand p l e ({ frames := 3, cells := 2, slots := 6, locals := 3085 } : Room) s m #[(.ref pa), (.ref co)] below meth c s₁ [] 0 0 := Stand.of_body Bd
  have e0 : s₁.heap = h0 := by rw [← hh, Bd.state]; rfl
  have N0 := Fr.nil n0
  have hret := Bd.returns
  show Goes p e below (fun o U' => ∃ v L, o = .returned v ∧ QSh5 Z co b0 b1 b2 b3 b4 h0 n0 v U'.heap L ∧ FrameEnd s o U' L ({ frames := 3, cells := 2, slots := 6, locals := 3085 } : Room).cells ({ frames := 3, cells := 2, slots := 6, locals := 3085 } : Room).slots) (s₁.setTop (entryFrame m #[(.ref pa), (.ref co)] 2))
  refine Goes.step ?_ (fun _ k => castTop (ef_sh m pa co) k)
  show Goes p e below _ (sF s₁ m 0 #[rv pa, rv co] [])
  refine Goes.step ?_ (fun _ k => XS.aloadN X0.here hx rfl (hb hby d3_0) rfl rfl k)
  show Goes p e below _ (sF s₁ m 1 #[rv pa, rv co] [(.ref pa)])
  obtain ⟨cl1, Ar1, q1, S1, N_1, H1, G1⟩ := id V_pa
  refine Goes.step ?_ (fun _ k => X0.arraylength hx (by rw [e0]; exact Ar1.1) (State.isArrayOf_alike hZ.alike Ar1.2.1) (g := (mkF m 1 #[rv pa, rv co] [(.ref pa)])) rfl rfl (hb hby d3_1) _ k)
  rw [len_of S1 N_1]
  show Goes p e below _ (sF s₁ m 2 #[rv pa, rv co] [(.int (5 : Int32))])
  refine Goes.step ?_ (fun _ k => XS.ifYes X0.here hx rfl (pc0 := 2) (pc' := 11) rfl (hb hby d3_2) rfl ((if0 _ _).trans (feq (by decide : ¬ ((5 : Int32) = (0 : Int32)))).2) (by decide) (by decide) k)
  show Goes p e below _ (sF s₁ m 11 #[rv pa, rv co] [])
  refine Goes.step ?_ (fun _ k => XS.aloadN X0.here hx rfl (hb hby d3_11) rfl rfl k)
  show Goes p e below _ (sF s₁ m 12 #[rv pa, rv co] [(.ref pa)])
  obtain ⟨_, _, ⟨T2, L2, k2, n2⟩, -, X2, ⟨Lc2, hQ2, l2, y2, z2⟩, st2⟩ := Jvm.LawKit.callS X0 hx (y := (⟨"com/example/borderline/borderline/BorderTable", "symbolsOf", "([B)Lcom/example/borderline/borderline/BorderTable$Symbols;"⟩ : MethodName)) hown (mvT hZ (hw _ (List.mem_of_getElem? (i := 27) rfl))) (mvT hZ (hw _ (List.mem_of_getElem? (i := 28) rfl))) (mvT hZ (hw _ (List.mem_of_getElem? (i := 13) rfl))) (mvT hZ (hw _ (List.mem_of_getElem? (i := 29) rfl))) (by decide) (own_backH (W := 0) (rmSym l Z a0 hw [] pa cK one h0 n0 Z0 hSame hLam) hZH (hw _ (List.mem_of_getElem? (i := 29) rfl)) (hw _ (List.mem_of_getElem? (i := 13) rfl)) (by decide) (by decide)) (g := (mkF m 12 #[rv pa, rv co] [(.ref pa)])) rfl (by rw [hml]; rfl) (argsL := [(.ref pa)]) (rest := []) (lenOf pd__28_5bB_29Lcom_2fexample_2fborderline_2fborderline_2fBorderTable_24Symbols_3b rfl) rfl (by show 2 * 0 + _ ≤ _; exact Nat.le_of_eq rfl) (hb hby d3_12) (fun _ _ => ⟨rfl, e0, (by decide : 0 + 1 ≤ _), (by decide : 0 + 1 ≤ _)⟩)
  dsimp only [Pt.U, Pt.locs, Pt.cells, Pt.slots] at X2 l2 y2 z2 st2 hQ2
  subst l2 y2 z2
  obtain ⟨r2, rfl, N2q, E2, gr2, hsy2⟩ := hQ2
  have N2 := Fr.app N0 N2q
  refine Goes.step ?_ st2
  have Zs2 : n0 ≤ T2.heap.size := Nat.le_trans Z0 E2.1
  show Goes p e below _ (sF T2 m 15 #[rv pa, rv co] [(.ref r2)])
  refine Goes.step ?_ (fun _ k => XS.aloadN X2.here hx rfl (hb hby d3_15) rfl rfl k)
  show Goes p e below _ (sF T2 m 16 #[rv pa, rv co] [(.ref pa), (.ref r2)])
  have V_pa_3 := (V_pa.ext E2)
  obtain ⟨cl4, Ar4, q4, S4, N_4, H4, G4⟩ := id V_pa_3
  refine Goes.step ?_ (fun _ k => X2.arraylength hx Ar4.1 (State.isArrayOf_alike hZ.alike Ar4.2.1) (g := (mkF m 16 #[rv pa, rv co] [(.ref pa), (.ref r2)])) rfl rfl (hb hby d3_16) _ k)
  rw [len_of S4 N_4]
  show Goes p e below _ (sF T2 m 17 #[rv pa, rv co] [(.int (5 : Int32)), (.ref r2)])
  refine Goes.step ?_ (fun _ k => XS.iconst X2.here hx rfl (hb hby d3_17) k)
  show Goes p e below _ (sF T2 m 18 #[rv pa, rv co] [(.int (1 : Int32)), (.int (5 : Int32)), (.ref r2)])
  refine Goes.step ?_ (fun _ k => XS.isub X2.here hx rfl (hb hby d3_18) rfl k)
  show Goes p e below _ (sF T2 m 19 #[rv pa, rv co] [(.int ((5 : Int32) - (1 : Int32))), (.ref r2)])
  rw [show ((5 : Int32) - (1 : Int32)) = (4 : Int32) from by decide]
  show Goes p e below _ (sF T2 m 19 #[rv pa, rv co] [(.int (4 : Int32)), (.ref r2)])
  refine Goes.step ?_ (fun _ k => XS.aloadN X2.here hx rfl (hb hby d3_19) rfl rfl k)
  show Goes p e below _ (sF T2 m 20 #[rv pa, rv co] [(.ref co), (.int (4 : Int32)), (.ref r2)])
  have F_co_count_5 := (F_count.ext E2)
  have E_co_6 := (E_co.ext E2)
  obtain ⟨_, _, ⟨T7, L7, k7, n7⟩, -, X7, ⟨Lc7, hQ7, l7, y7, z7⟩, st7⟩ := Jvm.LawKit.callS X2 hx (y := (⟨"com/example/borderline/borderline/BorderTable", "build", "(Lcom/example/borderline/borderline/BorderTable$Symbols;ILcom/example/borderline/borderline/Comparisons;)[I"⟩ : MethodName)) hown (mvT hZ (hw _ (List.mem_of_getElem? (i := 34) rfl))) (mvT hZ (hw _ (List.mem_of_getElem? (i := 35) rfl))) (mvT hZ (hw _ (List.mem_of_getElem? (i := 13) rfl))) (mvT hZ (hw _ (List.mem_of_getElem? (i := 36) rfl))) (by decide) (own_backH (W := 0) (rmBu5 l Z a0 hw [] r2 co cK one pa kp b0 b1 b2 b3 b4 T2.heap n0 Zs2 hSame hLam hsy2 V_pa_3 F_co_count_5 E_co_6 g_co) hZH (hw _ (List.mem_of_getElem? (i := 36) rfl)) (hw _ (List.mem_of_getElem? (i := 13) rfl)) (by decide) (by decide)) (g := (mkF m 20 #[rv pa, rv co] [(.ref co), (.int (4 : Int32)), (.ref r2)])) rfl (by rw [hml]; rfl) (argsL := [(.ref r2), (.int (4 : Int32)), (.ref co)]) (rest := []) (lenOf pd__28Lcom_2fexample_2fborderline_2fborderline_2fBorderTable_24Symbols_3bILcom_2fexample_2fborderline_2fborderline_2fComparisons_3b_29_5bI rfl) rfl (by show 2 * 0 + _ ≤ _; exact Nat.le_of_eq rfl) (hb hby d3_20) (fun _ _ => ⟨rfl, rfl, (by decide : 0 + 1 + 1 ≤ _), (by decide : 0 + 1 + 5 ≤ _)⟩)
  dsimp only [Pt.U, Pt.locs, Pt.cells, Pt.slots] at X7 l7 y7 z7 st7 hQ7
  subst l7 y7 z7
  obtain ⟨u7, ku7, q7, rfl, N7q, K7, gu7, Vu7, G7, l17, l27⟩ := hQ7
  have N7 := Fr.app N2 N7q
  refine Goes.step ?_ st7
  have K_8 := ((Keep.refl h0 [co]).ext E2)
  have KK := K_8.trans K7 (allS (Or.inl (List.mem_of_getElem? (i := 0) rfl)) all0)
  have gr : h0.size ≤ u7 := Nat.le_trans K_8.1 gu7
  show Goes p e below _ (sF T7 m 23 #[rv pa, rv co] [(.ref u7)])
  refine own_out X7 hx hlk hret rfl (Or.inr (Or.inr (Or.inr (Or.inr ⟨rfl, rfl, rfl⟩)))) (hb hby d3_23) ?_ (by decide) (by decide)
  show QSh5 Z co b0 b1 b2 b3 b4 h0 n0 _ T7.heap _
  exact ⟨u7, ku7, q7, rfl, N7, KK, gr, Vu7, G7, l17, l27⟩
theorem pn_com_example_borderline_borderline_BorderTableShiftedPinLaw : plainName "com/example/borderline/borderline/BorderTableShiftedPinLaw" = true := by first | (simp [plainName, overriddenIn]; done) | decide +kernel
theorem ef_bor2_1 (m : MethodId) (x0 : Addr) (x1 : Int32) (x2 : Int32) : entryFrame m #[(.ref x0), (.int x1), (.int x2)] 4 = mkF m 0 #[rv x0, iv x1, iv x2, .unset] [] := by first | (simp [entryFrame, mkF, argsToLocals, Value.category]; done) | rfl
theorem d11_0 : decode method_2_code 0 = .ok (.iconst 1, 1) := by decide +kernel
theorem d11_1 : decode method_2_code 1 = .ok (.istore_n 3, 1) := by decide +kernel
theorem d11_2 : decode method_2_code 2 = .ok (.iload_n 2, 1) := by decide +kernel
theorem d11_3 : decode method_2_code 3 = .ok (.ifCond .le 24, 3) := by decide +kernel
theorem d11_6 : decode method_2_code 6 = .ok (.iload_n 3, 1) := by decide +kernel
theorem d11_7 : decode method_2_code 7 = .ok (.ifCond .eq 18, 3) := by decide +kernel
theorem d11_10 : decode method_2_code 10 = .ok (.aload_n 0, 1) := by decide +kernel
theorem d11_11 : decode method_2_code 11 = .ok (.iconst 0, 1) := by decide +kernel
theorem d11_12 : decode method_2_code 12 = .ok (.baload, 1) := by decide +kernel
theorem d11_13 : decode method_2_code 13 = .ok (.aload_n 0, 1) := by decide +kernel
theorem d11_14 : decode method_2_code 14 = .ok (.iload_n 1, 1) := by decide +kernel
theorem d11_15 : decode method_2_code 15 = .ok (.iload_n 2, 1) := by decide +kernel
theorem d11_16 : decode method_2_code 16 = .ok (.isub, 1) := by decide +kernel
theorem d11_17 : decode method_2_code 17 = .ok (.baload, 1) := by decide +kernel
theorem d11_18 : decode method_2_code 18 = .ok (.if_icmp .ne 7, 3) := by decide +kernel
theorem d11_21 : decode method_2_code 21 = .ok (.iconst 1, 1) := by decide +kernel
theorem d11_22 : decode method_2_code 22 = .ok (.goto 4, 3) := by decide +kernel
theorem d11_26 : decode method_2_code 26 = .ok (.istore_n 3, 1) := by decide +kernel
theorem d11_27 : decode method_2_code 27 = .ok (.iload_n 2, 1) := by decide +kernel
theorem d11_28 : decode method_2_code 28 = .ok (.iconst 1, 1) := by decide +kernel
theorem d11_29 : decode method_2_code 29 = .ok (.if_icmp .le 26, 3) := by decide +kernel
theorem d11_55 : decode method_2_code 55 = .ok (.iload_n 2, 1) := by decide +kernel
theorem d11_56 : decode method_2_code 56 = .ok (.iconst 2, 1) := by decide +kernel
theorem d11_57 : decode method_2_code 57 = .ok (.if_icmp .le 26, 3) := by decide +kernel
theorem d11_83 : decode method_2_code 83 = .ok (.iload_n 3, 1) := by decide +kernel
theorem d11_84 : decode method_2_code 84 = .ok (.ireturn, 1) := by decide +kernel
theorem d11_25 : decode method_2_code 25 = .ok (.iconst 0, 1) := by decide +kernel
set_option maxRecDepth 65536 in
set_option maxHeartbeats 40000000 in
theorem rmBor2_1 (l : Launch) (Z : State) (a0 : Array Value) (hw : ∀ d ∈ tables_1, d.before a0 Z = true) (ws : List Jvm.Cond) (a1 : Addr) (ka : ClassId) (z : Int32) (pl : List Value) (b0 : Int32) (b1 : Int32) (r : Int32) (h0 : Heap) (n0 : Nat) (Z0 : n0 ≤ h0.size) (V_a1 : Arv Z h0 a1 ka .byte z pl (.int (0 : Int32))) (hz0 : ¬ (0 : Int32) < 0 ∧ (0 : Int32) < z) (hz1 : ¬ (1 : Int32) < 0 ∧ (1 : Int32) < z) (hp0 : pl.getD ((0 : Int32)).toNatClampNeg (.int (0 : Int32)) = .int b0) (hp1 : pl.getD ((1 : Int32)).toNatClampNeg (.int (0 : Int32)) = .int b1) (hr : (if b0 = b1 then (1 : Int32) else 0) = r) :
    MetFree l (⟨"com/example/borderline/borderline/BorderTableShiftedPinLaw", "border", "([BII)Z"⟩ : MethodName) (head1 (Jvm.Cond.code (⟨"com/example/borderline/borderline/BorderTableShiftedPinLaw", "border", "([BII)Z"⟩ : MethodName) method_2_code 4 (some .boolean) :: ws) ({ frames := 0, cells := 0, slots := 0, locals := 0 } : Room)) (fun a U => a = #[(.ref a1), (.int (2 : Int32)), (.int (1 : Int32))] ∧ Z.Warmed39 U.vm ∧ U.heap = h0) (fun _ _ _ _ _ => True) (fun _ U o U' => ∃ v L, o = .returned v ∧ QInt r h0 n0 v U'.heap L ∧ FrameEnd U o U' L ({ frames := 0, cells := 0, slots := 0, locals := 0 } : Room).cells ({ frames := 0, cells := 0, slots := 0, locals := 0 } : Room).slots) := by
  refine MetFree.of_bodySF (plainFor_of_name pn_com_example_borderline_borderline_BorderTableShiftedPinLaw) hisR ?_
  intro p e s m args below meth c s₁ Bd hml0 hP hK
  obtain ⟨rfl, hZ, hh⟩ := hP
  have hx := Bd.exec
  have hby := Bd.bytes
  have hlk : meth.locks = false := BodyLoose.notSynchronized Bd
  have hml : c.maxLocals = 4 := hml0
  have hown : s.vm.findClass "com/example/borderline/borderline/BorderTableShiftedPinLaw" = some m.cls := findClass_of_methodNamed Bd.named
  have hnm := (name_of_methodNamed Bd.named Bd.method).1
  have X0 : Stand p l e ({ frames := 0, cells := 0, slots := 0, locals := 0 } : Room) s m #[(.ref a1), (.int (2 : Int32)), (.int (1 : Int32))] below meth c s₁ [] 0 0 := Stand.of_body Bd
  have e0 : s₁.heap = h0 := by rw [← hh, Bd.state]; rfl
  have N0 := Fr.nil n0
  have hret := Bd.returns
  show Goes p e below (fun o U' => ∃ v L, o = .returned v ∧ QInt r h0 n0 v U'.heap L ∧ FrameEnd s o U' L ({ frames := 0, cells := 0, slots := 0, locals := 0 } : Room).cells ({ frames := 0, cells := 0, slots := 0, locals := 0 } : Room).slots) (s₁.setTop (entryFrame m #[(.ref a1), (.int (2 : Int32)), (.int (1 : Int32))] 4))
  refine Goes.step ?_ (fun _ k => castTop (ef_bor2_1 m a1 (2 : Int32) (1 : Int32)) k)
  show Goes p e below _ (sF s₁ m 0 #[rv a1, iv (2 : Int32), iv (1 : Int32), .unset] [])
  refine Goes.step ?_ (fun _ k => XS.iconst X0.here hx rfl (hb hby d11_0) k)
  show Goes p e below _ (sF s₁ m 1 #[rv a1, iv (2 : Int32), iv (1 : Int32), .unset] [(.int (1 : Int32))])
  refine Goes.step ?_ (fun _ k => XS.istoreN X0.here hx rfl (hb hby d11_1) rfl (l' := #[rv a1, iv (2 : Int32), iv (1 : Int32), iv (1 : Int32)]) rfl k)
  show Goes p e below _ (sF s₁ m 2 #[rv a1, iv (2 : Int32), iv (1 : Int32), iv (1 : Int32)] [])
  refine Goes.step ?_ (fun _ k => XS.iloadN X0.here hx rfl (hb hby d11_2) rfl  k)
  show Goes p e below _ (sF s₁ m 3 #[rv a1, iv (2 : Int32), iv (1 : Int32), iv (1 : Int32)] [(.int (1 : Int32))])
  refine Goes.step ?_ (fun _ k => XS.ifNo X0.here hx rfl (hb hby d11_3) rfl ((if0 _ _).trans (tlt (by decide : (0 : Int32) < (1 : Int32))).2.2.2) k)
  show Goes p e below _ (sF s₁ m 6 #[rv a1, iv (2 : Int32), iv (1 : Int32), iv (1 : Int32)] [])
  refine Goes.step ?_ (fun _ k => XS.iloadN X0.here hx rfl (hb hby d11_6) rfl  k)
  show Goes p e below _ (sF s₁ m 7 #[rv a1, iv (2 : Int32), iv (1 : Int32), iv (1 : Int32)] [(.int (1 : Int32))])
  refine Goes.step ?_ (fun _ k => XS.ifNo X0.here hx rfl (hb hby d11_7) rfl ((if0 _ _).trans (feq (by decide : ¬ ((1 : Int32) = (0 : Int32)))).1) k)
  show Goes p e below _ (sF s₁ m 10 #[rv a1, iv (2 : Int32), iv (1 : Int32), iv (1 : Int32)] [])
  refine Goes.step ?_ (fun _ k => XS.aloadN X0.here hx rfl (hb hby d11_10) rfl rfl k)
  show Goes p e below _ (sF s₁ m 11 #[rv a1, iv (2 : Int32), iv (1 : Int32), iv (1 : Int32)] [(.ref a1)])
  refine Goes.step ?_ (fun _ k => XS.iconst X0.here hx rfl (hb hby d11_11) k)
  show Goes p e below _ (sF s₁ m 12 #[rv a1, iv (2 : Int32), iv (1 : Int32), iv (1 : Int32)] [(.int (0 : Int32)), (.ref a1)])
  obtain ⟨cl1, Ar1, q1, S1, N_1, H1, G1⟩ := id V_a1
  have hin2 : ¬ ((0 : Int32) < 0 ∨ cl1.slots.size ≤ ((0 : Int32)).toNatClampNeg) := inb_of S1 hz0
  have hat2 : cl1.slots[((0 : Int32)).toNatClampNeg]? = some (.int b0) := H1.at hin2 hp0
  refine Goes.step ?_ (fun _ k => X0.baloadBytes hx (j := (0 : Int32)) (v := (.int b0)) (by rw [e0]; exact Ar1.1) (State.isArrayOf_alike hZ.alike Ar1.2.1) Ar1.2.2 hin2 hat2 (g := (mkF m 12 #[rv a1, iv (2 : Int32), iv (1 : Int32), iv (1 : Int32)] [(.int (0 : Int32)), (.ref a1)])) rfl rfl (hb hby d11_12) _ k)
  show Goes p e below _ (sF s₁ m 13 #[rv a1, iv (2 : Int32), iv (1 : Int32), iv (1 : Int32)] [(.int b0)])
  refine Goes.step ?_ (fun _ k => XS.aloadN X0.here hx rfl (hb hby d11_13) rfl rfl k)
  show Goes p e below _ (sF s₁ m 14 #[rv a1, iv (2 : Int32), iv (1 : Int32), iv (1 : Int32)] [(.ref a1), (.int b0)])
  refine Goes.step ?_ (fun _ k => XS.iloadN X0.here hx rfl (hb hby d11_14) rfl  k)
  show Goes p e below _ (sF s₁ m 15 #[rv a1, iv (2 : Int32), iv (1 : Int32), iv (1 : Int32)] [(.int (2 : Int32)), (.ref a1), (.int b0)])
  refine Goes.step ?_ (fun _ k => XS.iloadN X0.here hx rfl (hb hby d11_15) rfl  k)
  show Goes p e below _ (sF s₁ m 16 #[rv a1, iv (2 : Int32), iv (1 : Int32), iv (1 : Int32)] [(.int (1 : Int32)), (.int (2 : Int32)), (.ref a1), (.int b0)])
  refine Goes.step ?_ (fun _ k => XS.isub X0.here hx rfl (hb hby d11_16) rfl k)
  show Goes p e below _ (sF s₁ m 17 #[rv a1, iv (2 : Int32), iv (1 : Int32), iv (1 : Int32)] [(.int ((2 : Int32) - (1 : Int32))), (.ref a1), (.int b0)])
  rw [show ((2 : Int32) - (1 : Int32)) = (1 : Int32) from by decide]
  show Goes p e below _ (sF s₁ m 17 #[rv a1, iv (2 : Int32), iv (1 : Int32), iv (1 : Int32)] [(.int (1 : Int32)), (.ref a1), (.int b0)])
  obtain ⟨cl3, Ar3, q3, S3, N_3, H3, G3⟩ := id V_a1
  have hin4 : ¬ ((1 : Int32) < 0 ∨ cl3.slots.size ≤ ((1 : Int32)).toNatClampNeg) := inb_of S3 hz1
  have hat4 : cl3.slots[((1 : Int32)).toNatClampNeg]? = some (.int b1) := H3.at hin4 hp1
  refine Goes.step ?_ (fun _ k => X0.baloadBytes hx (j := (1 : Int32)) (v := (.int b1)) (by rw [e0]; exact Ar3.1) (State.isArrayOf_alike hZ.alike Ar3.2.1) Ar3.2.2 hin4 hat4 (g := (mkF m 17 #[rv a1, iv (2 : Int32), iv (1 : Int32), iv (1 : Int32)] [(.int (1 : Int32)), (.ref a1), (.int b0)])) rfl rfl (hb hby d11_17) _ k)
  show Goes p e below _ (sF s₁ m 18 #[rv a1, iv (2 : Int32), iv (1 : Int32), iv (1 : Int32)] [(.int b1), (.int b0)])
  by_cases hc18_5 : b0 = b1
  · refine Goes.step ?_ (fun _ k => XS.icmpNo X0.here hx rfl (hb hby d11_18) rfl (teq hc18_5).2 k)
    show Goes p e below _ (sF s₁ m 21 #[rv a1, iv (2 : Int32), iv (1 : Int32), iv (1 : Int32)] [])
    refine Goes.step ?_ (fun _ k => XS.iconst X0.here hx rfl (hb hby d11_21) k)
    show Goes p e below _ (sF s₁ m 22 #[rv a1, iv (2 : Int32), iv (1 : Int32), iv (1 : Int32)] [(.int (1 : Int32))])
    refine Goes.step ?_ (fun _ k => XS.goto X0.here hx rfl (pc0 := 22) (pc' := 26) rfl (hb hby d11_22) (by decide) (by decide) k)
    show Goes p e below _ (sF s₁ m 26 #[rv a1, iv (2 : Int32), iv (1 : Int32), iv (1 : Int32)] [(.int (1 : Int32))])
    refine Goes.step ?_ (fun _ k => XS.istoreN X0.here hx rfl (hb hby d11_26) rfl (l' := #[rv a1, iv (2 : Int32), iv (1 : Int32), iv (1 : Int32)]) rfl k)
    show Goes p e below _ (sF s₁ m 27 #[rv a1, iv (2 : Int32), iv (1 : Int32), iv (1 : Int32)] [])
    refine Goes.step ?_ (fun _ k => XS.iloadN X0.here hx rfl (hb hby d11_27) rfl  k)
    show Goes p e below _ (sF s₁ m 28 #[rv a1, iv (2 : Int32), iv (1 : Int32), iv (1 : Int32)] [(.int (1 : Int32))])
    refine Goes.step ?_ (fun _ k => XS.iconst X0.here hx rfl (hb hby d11_28) k)
    show Goes p e below _ (sF s₁ m 29 #[rv a1, iv (2 : Int32), iv (1 : Int32), iv (1 : Int32)] [(.int (1 : Int32)), (.int (1 : Int32))])
    refine Goes.step ?_ (fun _ k => XS.icmpYes X0.here hx rfl (pc0 := 29) (pc' := 55) rfl (hb hby d11_29) rfl (flt (by decide : ¬ ((1 : Int32) < (1 : Int32)))).2.2.2 (by decide) (by decide) k)
    show Goes p e below _ (sF s₁ m 55 #[rv a1, iv (2 : Int32), iv (1 : Int32), iv (1 : Int32)] [])
    refine Goes.step ?_ (fun _ k => XS.iloadN X0.here hx rfl (hb hby d11_55) rfl  k)
    show Goes p e below _ (sF s₁ m 56 #[rv a1, iv (2 : Int32), iv (1 : Int32), iv (1 : Int32)] [(.int (1 : Int32))])
    refine Goes.step ?_ (fun _ k => XS.iconst X0.here hx rfl (hb hby d11_56) k)
    show Goes p e below _ (sF s₁ m 57 #[rv a1, iv (2 : Int32), iv (1 : Int32), iv (1 : Int32)] [(.int (2 : Int32)), (.int (1 : Int32))])
    refine Goes.step ?_ (fun _ k => XS.icmpYes X0.here hx rfl (pc0 := 57) (pc' := 83) rfl (hb hby d11_57) rfl (flt (by decide : ¬ ((2 : Int32) < (1 : Int32)))).2.2.2 (by decide) (by decide) k)
    show Goes p e below _ (sF s₁ m 83 #[rv a1, iv (2 : Int32), iv (1 : Int32), iv (1 : Int32)] [])
    refine Goes.step ?_ (fun _ k => XS.iloadN X0.here hx rfl (hb hby d11_83) rfl  k)
    show Goes p e below _ (sF s₁ m 84 #[rv a1, iv (2 : Int32), iv (1 : Int32), iv (1 : Int32)] [(.int (1 : Int32))])
    refine own_out X0 hx hlk hret rfl (Or.inl ⟨rfl, by simp, _, rfl⟩) (hb hby d11_84) ?_ (by decide) (by decide)
    show QInt r h0 n0 _ s₁.heap _
    rw [e0]
    exact ⟨by rw [← hr]; simp [hc18_5], N0, rfl⟩
  · refine Goes.step ?_ (fun _ k => XS.icmpYes X0.here hx rfl (pc0 := 18) (pc' := 25) rfl (hb hby d11_18) rfl (feq hc18_5).2 (by decide) (by decide) k)
    show Goes p e below _ (sF s₁ m 25 #[rv a1, iv (2 : Int32), iv (1 : Int32), iv (1 : Int32)] [])
    refine Goes.step ?_ (fun _ k => XS.iconst X0.here hx rfl (hb hby d11_25) k)
    show Goes p e below _ (sF s₁ m 26 #[rv a1, iv (2 : Int32), iv (1 : Int32), iv (1 : Int32)] [(.int (0 : Int32))])
    refine Goes.step ?_ (fun _ k => XS.istoreN X0.here hx rfl (hb hby d11_26) rfl (l' := #[rv a1, iv (2 : Int32), iv (1 : Int32), iv (0 : Int32)]) rfl k)
    show Goes p e below _ (sF s₁ m 27 #[rv a1, iv (2 : Int32), iv (1 : Int32), iv (0 : Int32)] [])
    refine Goes.step ?_ (fun _ k => XS.iloadN X0.here hx rfl (hb hby d11_27) rfl  k)
    show Goes p e below _ (sF s₁ m 28 #[rv a1, iv (2 : Int32), iv (1 : Int32), iv (0 : Int32)] [(.int (1 : Int32))])
    refine Goes.step ?_ (fun _ k => XS.iconst X0.here hx rfl (hb hby d11_28) k)
    show Goes p e below _ (sF s₁ m 29 #[rv a1, iv (2 : Int32), iv (1 : Int32), iv (0 : Int32)] [(.int (1 : Int32)), (.int (1 : Int32))])
    refine Goes.step ?_ (fun _ k => XS.icmpYes X0.here hx rfl (pc0 := 29) (pc' := 55) rfl (hb hby d11_29) rfl (flt (by decide : ¬ ((1 : Int32) < (1 : Int32)))).2.2.2 (by decide) (by decide) k)
    show Goes p e below _ (sF s₁ m 55 #[rv a1, iv (2 : Int32), iv (1 : Int32), iv (0 : Int32)] [])
    refine Goes.step ?_ (fun _ k => XS.iloadN X0.here hx rfl (hb hby d11_55) rfl  k)
    show Goes p e below _ (sF s₁ m 56 #[rv a1, iv (2 : Int32), iv (1 : Int32), iv (0 : Int32)] [(.int (1 : Int32))])
    refine Goes.step ?_ (fun _ k => XS.iconst X0.here hx rfl (hb hby d11_56) k)
    show Goes p e below _ (sF s₁ m 57 #[rv a1, iv (2 : Int32), iv (1 : Int32), iv (0 : Int32)] [(.int (2 : Int32)), (.int (1 : Int32))])
    refine Goes.step ?_ (fun _ k => XS.icmpYes X0.here hx rfl (pc0 := 57) (pc' := 83) rfl (hb hby d11_57) rfl (flt (by decide : ¬ ((2 : Int32) < (1 : Int32)))).2.2.2 (by decide) (by decide) k)
    show Goes p e below _ (sF s₁ m 83 #[rv a1, iv (2 : Int32), iv (1 : Int32), iv (0 : Int32)] [])
    refine Goes.step ?_ (fun _ k => XS.iloadN X0.here hx rfl (hb hby d11_83) rfl  k)
    show Goes p e below _ (sF s₁ m 84 #[rv a1, iv (2 : Int32), iv (1 : Int32), iv (0 : Int32)] [(.int (0 : Int32))])
    refine own_out X0 hx hlk hret rfl (Or.inl ⟨rfl, by simp, _, rfl⟩) (hb hby d11_84) ?_ (by decide) (by decide)
    show QInt r h0 n0 _ s₁.heap _
    rw [e0]
    exact ⟨by rw [← hr]; simp [hc18_5], N0, rfl⟩
theorem ef_bor3_2 (m : MethodId) (x0 : Addr) (x1 : Int32) (x2 : Int32) : entryFrame m #[(.ref x0), (.int x1), (.int x2)] 4 = mkF m 0 #[rv x0, iv x1, iv x2, .unset] [] := by first | (simp [entryFrame, mkF, argsToLocals, Value.category]; done) | rfl
theorem d11_32 : decode method_2_code 32 = .ok (.iload_n 3, 1) := by decide +kernel
theorem d11_33 : decode method_2_code 33 = .ok (.ifCond .eq 20, 3) := by decide +kernel
theorem d11_36 : decode method_2_code 36 = .ok (.aload_n 0, 1) := by decide +kernel
theorem d11_37 : decode method_2_code 37 = .ok (.iconst 1, 1) := by decide +kernel
theorem d11_38 : decode method_2_code 38 = .ok (.baload, 1) := by decide +kernel
theorem d11_39 : decode method_2_code 39 = .ok (.aload_n 0, 1) := by decide +kernel
theorem d11_40 : decode method_2_code 40 = .ok (.iload_n 1, 1) := by decide +kernel
theorem d11_41 : decode method_2_code 41 = .ok (.iload_n 2, 1) := by decide +kernel
theorem d11_42 : decode method_2_code 42 = .ok (.isub, 1) := by decide +kernel
theorem d11_43 : decode method_2_code 43 = .ok (.iconst 1, 1) := by decide +kernel
theorem d11_44 : decode method_2_code 44 = .ok (.iadd, 1) := by decide +kernel
theorem d11_45 : decode method_2_code 45 = .ok (.baload, 1) := by decide +kernel
theorem d11_46 : decode method_2_code 46 = .ok (.if_icmp .ne 7, 3) := by decide +kernel
theorem d11_49 : decode method_2_code 49 = .ok (.iconst 1, 1) := by decide +kernel
theorem d11_50 : decode method_2_code 50 = .ok (.goto 4, 3) := by decide +kernel
theorem d11_54 : decode method_2_code 54 = .ok (.istore_n 3, 1) := by decide +kernel
theorem d11_53 : decode method_2_code 53 = .ok (.iconst 0, 1) := by decide +kernel
set_option maxRecDepth 65536 in
set_option maxHeartbeats 40000000 in
theorem rmBor3_2 (l : Launch) (Z : State) (a0 : Array Value) (hw : ∀ d ∈ tables_1, d.before a0 Z = true) (ws : List Jvm.Cond) (a1 : Addr) (ka : ClassId) (z : Int32) (pl : List Value) (b0 : Int32) (b1 : Int32) (b2 : Int32) (r : Int32) (h0 : Heap) (n0 : Nat) (Z0 : n0 ≤ h0.size) (V_a1 : Arv Z h0 a1 ka .byte z pl (.int (0 : Int32))) (hz0 : ¬ (0 : Int32) < 0 ∧ (0 : Int32) < z) (hz1 : ¬ (1 : Int32) < 0 ∧ (1 : Int32) < z) (hz2 : ¬ (2 : Int32) < 0 ∧ (2 : Int32) < z) (hp0 : pl.getD ((0 : Int32)).toNatClampNeg (.int (0 : Int32)) = .int b0) (hp1 : pl.getD ((1 : Int32)).toNatClampNeg (.int (0 : Int32)) = .int b1) (hp2 : pl.getD ((2 : Int32)).toNatClampNeg (.int (0 : Int32)) = .int b2) (hr : (if b0 = b1 ∧ b1 = b2 then (1 : Int32) else 0) = r) :
    MetFree l (⟨"com/example/borderline/borderline/BorderTableShiftedPinLaw", "border", "([BII)Z"⟩ : MethodName) (head1 (Jvm.Cond.code (⟨"com/example/borderline/borderline/BorderTableShiftedPinLaw", "border", "([BII)Z"⟩ : MethodName) method_2_code 4 (some .boolean) :: ws) ({ frames := 0, cells := 0, slots := 0, locals := 0 } : Room)) (fun a U => a = #[(.ref a1), (.int (3 : Int32)), (.int (2 : Int32))] ∧ Z.Warmed39 U.vm ∧ U.heap = h0) (fun _ _ _ _ _ => True) (fun _ U o U' => ∃ v L, o = .returned v ∧ QInt r h0 n0 v U'.heap L ∧ FrameEnd U o U' L ({ frames := 0, cells := 0, slots := 0, locals := 0 } : Room).cells ({ frames := 0, cells := 0, slots := 0, locals := 0 } : Room).slots) := by
  refine MetFree.of_bodySF (plainFor_of_name pn_com_example_borderline_borderline_BorderTableShiftedPinLaw) hisR ?_
  intro p e s m args below meth c s₁ Bd hml0 hP hK
  obtain ⟨rfl, hZ, hh⟩ := hP
  have hx := Bd.exec
  have hby := Bd.bytes
  have hlk : meth.locks = false := BodyLoose.notSynchronized Bd
  have hml : c.maxLocals = 4 := hml0
  have hown : s.vm.findClass "com/example/borderline/borderline/BorderTableShiftedPinLaw" = some m.cls := findClass_of_methodNamed Bd.named
  have hnm := (name_of_methodNamed Bd.named Bd.method).1
  have X0 : Stand p l e ({ frames := 0, cells := 0, slots := 0, locals := 0 } : Room) s m #[(.ref a1), (.int (3 : Int32)), (.int (2 : Int32))] below meth c s₁ [] 0 0 := Stand.of_body Bd
  have e0 : s₁.heap = h0 := by rw [← hh, Bd.state]; rfl
  have N0 := Fr.nil n0
  have hret := Bd.returns
  show Goes p e below (fun o U' => ∃ v L, o = .returned v ∧ QInt r h0 n0 v U'.heap L ∧ FrameEnd s o U' L ({ frames := 0, cells := 0, slots := 0, locals := 0 } : Room).cells ({ frames := 0, cells := 0, slots := 0, locals := 0 } : Room).slots) (s₁.setTop (entryFrame m #[(.ref a1), (.int (3 : Int32)), (.int (2 : Int32))] 4))
  refine Goes.step ?_ (fun _ k => castTop (ef_bor3_2 m a1 (3 : Int32) (2 : Int32)) k)
  show Goes p e below _ (sF s₁ m 0 #[rv a1, iv (3 : Int32), iv (2 : Int32), .unset] [])
  refine Goes.step ?_ (fun _ k => XS.iconst X0.here hx rfl (hb hby d11_0) k)
  show Goes p e below _ (sF s₁ m 1 #[rv a1, iv (3 : Int32), iv (2 : Int32), .unset] [(.int (1 : Int32))])
  refine Goes.step ?_ (fun _ k => XS.istoreN X0.here hx rfl (hb hby d11_1) rfl (l' := #[rv a1, iv (3 : Int32), iv (2 : Int32), iv (1 : Int32)]) rfl k)
  show Goes p e below _ (sF s₁ m 2 #[rv a1, iv (3 : Int32), iv (2 : Int32), iv (1 : Int32)] [])
  refine Goes.step ?_ (fun _ k => XS.iloadN X0.here hx rfl (hb hby d11_2) rfl  k)
  show Goes p e below _ (sF s₁ m 3 #[rv a1, iv (3 : Int32), iv (2 : Int32), iv (1 : Int32)] [(.int (2 : Int32))])
  refine Goes.step ?_ (fun _ k => XS.ifNo X0.here hx rfl (hb hby d11_3) rfl ((if0 _ _).trans (tlt (by decide : (0 : Int32) < (2 : Int32))).2.2.2) k)
  show Goes p e below _ (sF s₁ m 6 #[rv a1, iv (3 : Int32), iv (2 : Int32), iv (1 : Int32)] [])
  refine Goes.step ?_ (fun _ k => XS.iloadN X0.here hx rfl (hb hby d11_6) rfl  k)
  show Goes p e below _ (sF s₁ m 7 #[rv a1, iv (3 : Int32), iv (2 : Int32), iv (1 : Int32)] [(.int (1 : Int32))])
  refine Goes.step ?_ (fun _ k => XS.ifNo X0.here hx rfl (hb hby d11_7) rfl ((if0 _ _).trans (feq (by decide : ¬ ((1 : Int32) = (0 : Int32)))).1) k)
  show Goes p e below _ (sF s₁ m 10 #[rv a1, iv (3 : Int32), iv (2 : Int32), iv (1 : Int32)] [])
  refine Goes.step ?_ (fun _ k => XS.aloadN X0.here hx rfl (hb hby d11_10) rfl rfl k)
  show Goes p e below _ (sF s₁ m 11 #[rv a1, iv (3 : Int32), iv (2 : Int32), iv (1 : Int32)] [(.ref a1)])
  refine Goes.step ?_ (fun _ k => XS.iconst X0.here hx rfl (hb hby d11_11) k)
  show Goes p e below _ (sF s₁ m 12 #[rv a1, iv (3 : Int32), iv (2 : Int32), iv (1 : Int32)] [(.int (0 : Int32)), (.ref a1)])
  obtain ⟨cl1, Ar1, q1, S1, N_1, H1, G1⟩ := id V_a1
  have hin2 : ¬ ((0 : Int32) < 0 ∨ cl1.slots.size ≤ ((0 : Int32)).toNatClampNeg) := inb_of S1 hz0
  have hat2 : cl1.slots[((0 : Int32)).toNatClampNeg]? = some (.int b0) := H1.at hin2 hp0
  refine Goes.step ?_ (fun _ k => X0.baloadBytes hx (j := (0 : Int32)) (v := (.int b0)) (by rw [e0]; exact Ar1.1) (State.isArrayOf_alike hZ.alike Ar1.2.1) Ar1.2.2 hin2 hat2 (g := (mkF m 12 #[rv a1, iv (3 : Int32), iv (2 : Int32), iv (1 : Int32)] [(.int (0 : Int32)), (.ref a1)])) rfl rfl (hb hby d11_12) _ k)
  show Goes p e below _ (sF s₁ m 13 #[rv a1, iv (3 : Int32), iv (2 : Int32), iv (1 : Int32)] [(.int b0)])
  refine Goes.step ?_ (fun _ k => XS.aloadN X0.here hx rfl (hb hby d11_13) rfl rfl k)
  show Goes p e below _ (sF s₁ m 14 #[rv a1, iv (3 : Int32), iv (2 : Int32), iv (1 : Int32)] [(.ref a1), (.int b0)])
  refine Goes.step ?_ (fun _ k => XS.iloadN X0.here hx rfl (hb hby d11_14) rfl  k)
  show Goes p e below _ (sF s₁ m 15 #[rv a1, iv (3 : Int32), iv (2 : Int32), iv (1 : Int32)] [(.int (3 : Int32)), (.ref a1), (.int b0)])
  refine Goes.step ?_ (fun _ k => XS.iloadN X0.here hx rfl (hb hby d11_15) rfl  k)
  show Goes p e below _ (sF s₁ m 16 #[rv a1, iv (3 : Int32), iv (2 : Int32), iv (1 : Int32)] [(.int (2 : Int32)), (.int (3 : Int32)), (.ref a1), (.int b0)])
  refine Goes.step ?_ (fun _ k => XS.isub X0.here hx rfl (hb hby d11_16) rfl k)
  show Goes p e below _ (sF s₁ m 17 #[rv a1, iv (3 : Int32), iv (2 : Int32), iv (1 : Int32)] [(.int ((3 : Int32) - (2 : Int32))), (.ref a1), (.int b0)])
  rw [show ((3 : Int32) - (2 : Int32)) = (1 : Int32) from by decide]
  show Goes p e below _ (sF s₁ m 17 #[rv a1, iv (3 : Int32), iv (2 : Int32), iv (1 : Int32)] [(.int (1 : Int32)), (.ref a1), (.int b0)])
  obtain ⟨cl3, Ar3, q3, S3, N_3, H3, G3⟩ := id V_a1
  have hin4 : ¬ ((1 : Int32) < 0 ∨ cl3.slots.size ≤ ((1 : Int32)).toNatClampNeg) := inb_of S3 hz1
  have hat4 : cl3.slots[((1 : Int32)).toNatClampNeg]? = some (.int b1) := H3.at hin4 hp1
  refine Goes.step ?_ (fun _ k => X0.baloadBytes hx (j := (1 : Int32)) (v := (.int b1)) (by rw [e0]; exact Ar3.1) (State.isArrayOf_alike hZ.alike Ar3.2.1) Ar3.2.2 hin4 hat4 (g := (mkF m 17 #[rv a1, iv (3 : Int32), iv (2 : Int32), iv (1 : Int32)] [(.int (1 : Int32)), (.ref a1), (.int b0)])) rfl rfl (hb hby d11_17) _ k)
  show Goes p e below _ (sF s₁ m 18 #[rv a1, iv (3 : Int32), iv (2 : Int32), iv (1 : Int32)] [(.int b1), (.int b0)])
  by_cases hc18_5 : b0 = b1
  · refine Goes.step ?_ (fun _ k => XS.icmpNo X0.here hx rfl (hb hby d11_18) rfl (teq hc18_5).2 k)
    show Goes p e below _ (sF s₁ m 21 #[rv a1, iv (3 : Int32), iv (2 : Int32), iv (1 : Int32)] [])
    refine Goes.step ?_ (fun _ k => XS.iconst X0.here hx rfl (hb hby d11_21) k)
    show Goes p e below _ (sF s₁ m 22 #[rv a1, iv (3 : Int32), iv (2 : Int32), iv (1 : Int32)] [(.int (1 : Int32))])
    refine Goes.step ?_ (fun _ k => XS.goto X0.here hx rfl (pc0 := 22) (pc' := 26) rfl (hb hby d11_22) (by decide) (by decide) k)
    show Goes p e below _ (sF s₁ m 26 #[rv a1, iv (3 : Int32), iv (2 : Int32), iv (1 : Int32)] [(.int (1 : Int32))])
    refine Goes.step ?_ (fun _ k => XS.istoreN X0.here hx rfl (hb hby d11_26) rfl (l' := #[rv a1, iv (3 : Int32), iv (2 : Int32), iv (1 : Int32)]) rfl k)
    show Goes p e below _ (sF s₁ m 27 #[rv a1, iv (3 : Int32), iv (2 : Int32), iv (1 : Int32)] [])
    refine Goes.step ?_ (fun _ k => XS.iloadN X0.here hx rfl (hb hby d11_27) rfl  k)
    show Goes p e below _ (sF s₁ m 28 #[rv a1, iv (3 : Int32), iv (2 : Int32), iv (1 : Int32)] [(.int (2 : Int32))])
    refine Goes.step ?_ (fun _ k => XS.iconst X0.here hx rfl (hb hby d11_28) k)
    show Goes p e below _ (sF s₁ m 29 #[rv a1, iv (3 : Int32), iv (2 : Int32), iv (1 : Int32)] [(.int (1 : Int32)), (.int (2 : Int32))])
    refine Goes.step ?_ (fun _ k => XS.icmpNo X0.here hx rfl (hb hby d11_29) rfl (tlt (by decide : (1 : Int32) < (2 : Int32))).2.2.2 k)
    show Goes p e below _ (sF s₁ m 32 #[rv a1, iv (3 : Int32), iv (2 : Int32), iv (1 : Int32)] [])
    refine Goes.step ?_ (fun _ k => XS.iloadN X0.here hx rfl (hb hby d11_32) rfl  k)
    show Goes p e below _ (sF s₁ m 33 #[rv a1, iv (3 : Int32), iv (2 : Int32), iv (1 : Int32)] [(.int (1 : Int32))])
    refine Goes.step ?_ (fun _ k => XS.ifNo X0.here hx rfl (hb hby d11_33) rfl ((if0 _ _).trans (feq (by decide : ¬ ((1 : Int32) = (0 : Int32)))).1) k)
    show Goes p e below _ (sF s₁ m 36 #[rv a1, iv (3 : Int32), iv (2 : Int32), iv (1 : Int32)] [])
    refine Goes.step ?_ (fun _ k => XS.aloadN X0.here hx rfl (hb hby d11_36) rfl rfl k)
    show Goes p e below _ (sF s₁ m 37 #[rv a1, iv (3 : Int32), iv (2 : Int32), iv (1 : Int32)] [(.ref a1)])
    refine Goes.step ?_ (fun _ k => XS.iconst X0.here hx rfl (hb hby d11_37) k)
    show Goes p e below _ (sF s₁ m 38 #[rv a1, iv (3 : Int32), iv (2 : Int32), iv (1 : Int32)] [(.int (1 : Int32)), (.ref a1)])
    obtain ⟨cl6, Ar6, q6, S6, N_6, H6, G6⟩ := id V_a1
    have hin7 : ¬ ((1 : Int32) < 0 ∨ cl6.slots.size ≤ ((1 : Int32)).toNatClampNeg) := inb_of S6 hz1
    have hat7 : cl6.slots[((1 : Int32)).toNatClampNeg]? = some (.int b1) := H6.at hin7 hp1
    refine Goes.step ?_ (fun _ k => X0.baloadBytes hx (j := (1 : Int32)) (v := (.int b1)) (by rw [e0]; exact Ar6.1) (State.isArrayOf_alike hZ.alike Ar6.2.1) Ar6.2.2 hin7 hat7 (g := (mkF m 38 #[rv a1, iv (3 : Int32), iv (2 : Int32), iv (1 : Int32)] [(.int (1 : Int32)), (.ref a1)])) rfl rfl (hb hby d11_38) _ k)
    show Goes p e below _ (sF s₁ m 39 #[rv a1, iv (3 : Int32), iv (2 : Int32), iv (1 : Int32)] [(.int b1)])
    refine Goes.step ?_ (fun _ k => XS.aloadN X0.here hx rfl (hb hby d11_39) rfl rfl k)
    show Goes p e below _ (sF s₁ m 40 #[rv a1, iv (3 : Int32), iv (2 : Int32), iv (1 : Int32)] [(.ref a1), (.int b1)])
    refine Goes.step ?_ (fun _ k => XS.iloadN X0.here hx rfl (hb hby d11_40) rfl  k)
    show Goes p e below _ (sF s₁ m 41 #[rv a1, iv (3 : Int32), iv (2 : Int32), iv (1 : Int32)] [(.int (3 : Int32)), (.ref a1), (.int b1)])
    refine Goes.step ?_ (fun _ k => XS.iloadN X0.here hx rfl (hb hby d11_41) rfl  k)
    show Goes p e below _ (sF s₁ m 42 #[rv a1, iv (3 : Int32), iv (2 : Int32), iv (1 : Int32)] [(.int (2 : Int32)), (.int (3 : Int32)), (.ref a1), (.int b1)])
    refine Goes.step ?_ (fun _ k => XS.isub X0.here hx rfl (hb hby d11_42) rfl k)
    show Goes p e below _ (sF s₁ m 43 #[rv a1, iv (3 : Int32), iv (2 : Int32), iv (1 : Int32)] [(.int ((3 : Int32) - (2 : Int32))), (.ref a1), (.int b1)])
    rw [show ((3 : Int32) - (2 : Int32)) = (1 : Int32) from by decide]
    show Goes p e below _ (sF s₁ m 43 #[rv a1, iv (3 : Int32), iv (2 : Int32), iv (1 : Int32)] [(.int (1 : Int32)), (.ref a1), (.int b1)])
    refine Goes.step ?_ (fun _ k => XS.iconst X0.here hx rfl (hb hby d11_43) k)
    show Goes p e below _ (sF s₁ m 44 #[rv a1, iv (3 : Int32), iv (2 : Int32), iv (1 : Int32)] [(.int (1 : Int32)), (.int (1 : Int32)), (.ref a1), (.int b1)])
    refine Goes.step ?_ (fun _ k => XS.iadd X0.here hx rfl (hb hby d11_44) rfl k)
    show Goes p e below _ (sF s₁ m 45 #[rv a1, iv (3 : Int32), iv (2 : Int32), iv (1 : Int32)] [(.int ((1 : Int32) + (1 : Int32))), (.ref a1), (.int b1)])
    rw [show ((1 : Int32) + (1 : Int32)) = (2 : Int32) from by decide]
    show Goes p e below _ (sF s₁ m 45 #[rv a1, iv (3 : Int32), iv (2 : Int32), iv (1 : Int32)] [(.int (2 : Int32)), (.ref a1), (.int b1)])
    obtain ⟨cl8, Ar8, q8, S8, N_8, H8, G8⟩ := id V_a1
    have hin9 : ¬ ((2 : Int32) < 0 ∨ cl8.slots.size ≤ ((2 : Int32)).toNatClampNeg) := inb_of S8 hz2
    have hat9 : cl8.slots[((2 : Int32)).toNatClampNeg]? = some (.int b2) := H8.at hin9 hp2
    refine Goes.step ?_ (fun _ k => X0.baloadBytes hx (j := (2 : Int32)) (v := (.int b2)) (by rw [e0]; exact Ar8.1) (State.isArrayOf_alike hZ.alike Ar8.2.1) Ar8.2.2 hin9 hat9 (g := (mkF m 45 #[rv a1, iv (3 : Int32), iv (2 : Int32), iv (1 : Int32)] [(.int (2 : Int32)), (.ref a1), (.int b1)])) rfl rfl (hb hby d11_45) _ k)
    show Goes p e below _ (sF s₁ m 46 #[rv a1, iv (3 : Int32), iv (2 : Int32), iv (1 : Int32)] [(.int b2), (.int b1)])
    by_cases hc46_10 : b1 = b2
    · refine Goes.step ?_ (fun _ k => XS.icmpNo X0.here hx rfl (hb hby d11_46) rfl (teq hc46_10).2 k)
      show Goes p e below _ (sF s₁ m 49 #[rv a1, iv (3 : Int32), iv (2 : Int32), iv (1 : Int32)] [])
      refine Goes.step ?_ (fun _ k => XS.iconst X0.here hx rfl (hb hby d11_49) k)
      show Goes p e below _ (sF s₁ m 50 #[rv a1, iv (3 : Int32), iv (2 : Int32), iv (1 : Int32)] [(.int (1 : Int32))])
      refine Goes.step ?_ (fun _ k => XS.goto X0.here hx rfl (pc0 := 50) (pc' := 54) rfl (hb hby d11_50) (by decide) (by decide) k)
      show Goes p e below _ (sF s₁ m 54 #[rv a1, iv (3 : Int32), iv (2 : Int32), iv (1 : Int32)] [(.int (1 : Int32))])
      refine Goes.step ?_ (fun _ k => XS.istoreN X0.here hx rfl (hb hby d11_54) rfl (l' := #[rv a1, iv (3 : Int32), iv (2 : Int32), iv (1 : Int32)]) rfl k)
      show Goes p e below _ (sF s₁ m 55 #[rv a1, iv (3 : Int32), iv (2 : Int32), iv (1 : Int32)] [])
      refine Goes.step ?_ (fun _ k => XS.iloadN X0.here hx rfl (hb hby d11_55) rfl  k)
      show Goes p e below _ (sF s₁ m 56 #[rv a1, iv (3 : Int32), iv (2 : Int32), iv (1 : Int32)] [(.int (2 : Int32))])
      refine Goes.step ?_ (fun _ k => XS.iconst X0.here hx rfl (hb hby d11_56) k)
      show Goes p e below _ (sF s₁ m 57 #[rv a1, iv (3 : Int32), iv (2 : Int32), iv (1 : Int32)] [(.int (2 : Int32)), (.int (2 : Int32))])
      refine Goes.step ?_ (fun _ k => XS.icmpYes X0.here hx rfl (pc0 := 57) (pc' := 83) rfl (hb hby d11_57) rfl (flt (by decide : ¬ ((2 : Int32) < (2 : Int32)))).2.2.2 (by decide) (by decide) k)
      show Goes p e below _ (sF s₁ m 83 #[rv a1, iv (3 : Int32), iv (2 : Int32), iv (1 : Int32)] [])
      refine Goes.step ?_ (fun _ k => XS.iloadN X0.here hx rfl (hb hby d11_83) rfl  k)
      show Goes p e below _ (sF s₁ m 84 #[rv a1, iv (3 : Int32), iv (2 : Int32), iv (1 : Int32)] [(.int (1 : Int32))])
      refine own_out X0 hx hlk hret rfl (Or.inl ⟨rfl, by simp, _, rfl⟩) (hb hby d11_84) ?_ (by decide) (by decide)
      show QInt r h0 n0 _ s₁.heap _
      rw [e0]
      exact ⟨by rw [← hr]; simp [hc18_5, hc46_10], N0, rfl⟩
    · refine Goes.step ?_ (fun _ k => XS.icmpYes X0.here hx rfl (pc0 := 46) (pc' := 53) rfl (hb hby d11_46) rfl (feq hc46_10).2 (by decide) (by decide) k)
      show Goes p e below _ (sF s₁ m 53 #[rv a1, iv (3 : Int32), iv (2 : Int32), iv (1 : Int32)] [])
      refine Goes.step ?_ (fun _ k => XS.iconst X0.here hx rfl (hb hby d11_53) k)
      show Goes p e below _ (sF s₁ m 54 #[rv a1, iv (3 : Int32), iv (2 : Int32), iv (1 : Int32)] [(.int (0 : Int32))])
      refine Goes.step ?_ (fun _ k => XS.istoreN X0.here hx rfl (hb hby d11_54) rfl (l' := #[rv a1, iv (3 : Int32), iv (2 : Int32), iv (0 : Int32)]) rfl k)
      show Goes p e below _ (sF s₁ m 55 #[rv a1, iv (3 : Int32), iv (2 : Int32), iv (0 : Int32)] [])
      refine Goes.step ?_ (fun _ k => XS.iloadN X0.here hx rfl (hb hby d11_55) rfl  k)
      show Goes p e below _ (sF s₁ m 56 #[rv a1, iv (3 : Int32), iv (2 : Int32), iv (0 : Int32)] [(.int (2 : Int32))])
      refine Goes.step ?_ (fun _ k => XS.iconst X0.here hx rfl (hb hby d11_56) k)
      show Goes p e below _ (sF s₁ m 57 #[rv a1, iv (3 : Int32), iv (2 : Int32), iv (0 : Int32)] [(.int (2 : Int32)), (.int (2 : Int32))])
      refine Goes.step ?_ (fun _ k => XS.icmpYes X0.here hx rfl (pc0 := 57) (pc' := 83) rfl (hb hby d11_57) rfl (flt (by decide : ¬ ((2 : Int32) < (2 : Int32)))).2.2.2 (by decide) (by decide) k)
      show Goes p e below _ (sF s₁ m 83 #[rv a1, iv (3 : Int32), iv (2 : Int32), iv (0 : Int32)] [])
      refine Goes.step ?_ (fun _ k => XS.iloadN X0.here hx rfl (hb hby d11_83) rfl  k)
      show Goes p e below _ (sF s₁ m 84 #[rv a1, iv (3 : Int32), iv (2 : Int32), iv (0 : Int32)] [(.int (0 : Int32))])
      refine own_out X0 hx hlk hret rfl (Or.inl ⟨rfl, by simp, _, rfl⟩) (hb hby d11_84) ?_ (by decide) (by decide)
      show QInt r h0 n0 _ s₁.heap _
      rw [e0]
      exact ⟨by rw [← hr]; simp [hc18_5, hc46_10], N0, rfl⟩
  · refine Goes.step ?_ (fun _ k => XS.icmpYes X0.here hx rfl (pc0 := 18) (pc' := 25) rfl (hb hby d11_18) rfl (feq hc18_5).2 (by decide) (by decide) k)
    show Goes p e below _ (sF s₁ m 25 #[rv a1, iv (3 : Int32), iv (2 : Int32), iv (1 : Int32)] [])
    refine Goes.step ?_ (fun _ k => XS.iconst X0.here hx rfl (hb hby d11_25) k)
    show Goes p e below _ (sF s₁ m 26 #[rv a1, iv (3 : Int32), iv (2 : Int32), iv (1 : Int32)] [(.int (0 : Int32))])
    refine Goes.step ?_ (fun _ k => XS.istoreN X0.here hx rfl (hb hby d11_26) rfl (l' := #[rv a1, iv (3 : Int32), iv (2 : Int32), iv (0 : Int32)]) rfl k)
    show Goes p e below _ (sF s₁ m 27 #[rv a1, iv (3 : Int32), iv (2 : Int32), iv (0 : Int32)] [])
    refine Goes.step ?_ (fun _ k => XS.iloadN X0.here hx rfl (hb hby d11_27) rfl  k)
    show Goes p e below _ (sF s₁ m 28 #[rv a1, iv (3 : Int32), iv (2 : Int32), iv (0 : Int32)] [(.int (2 : Int32))])
    refine Goes.step ?_ (fun _ k => XS.iconst X0.here hx rfl (hb hby d11_28) k)
    show Goes p e below _ (sF s₁ m 29 #[rv a1, iv (3 : Int32), iv (2 : Int32), iv (0 : Int32)] [(.int (1 : Int32)), (.int (2 : Int32))])
    refine Goes.step ?_ (fun _ k => XS.icmpNo X0.here hx rfl (hb hby d11_29) rfl (tlt (by decide : (1 : Int32) < (2 : Int32))).2.2.2 k)
    show Goes p e below _ (sF s₁ m 32 #[rv a1, iv (3 : Int32), iv (2 : Int32), iv (0 : Int32)] [])
    refine Goes.step ?_ (fun _ k => XS.iloadN X0.here hx rfl (hb hby d11_32) rfl  k)
    show Goes p e below _ (sF s₁ m 33 #[rv a1, iv (3 : Int32), iv (2 : Int32), iv (0 : Int32)] [(.int (0 : Int32))])
    refine Goes.step ?_ (fun _ k => XS.ifYes X0.here hx rfl (pc0 := 33) (pc' := 53) rfl (hb hby d11_33) rfl ((if0 _ _).trans (teq (by decide : (0 : Int32) = (0 : Int32))).1) (by decide) (by decide) k)
    show Goes p e below _ (sF s₁ m 53 #[rv a1, iv (3 : Int32), iv (2 : Int32), iv (0 : Int32)] [])
    refine Goes.step ?_ (fun _ k => XS.iconst X0.here hx rfl (hb hby d11_53) k)
    show Goes p e below _ (sF s₁ m 54 #[rv a1, iv (3 : Int32), iv (2 : Int32), iv (0 : Int32)] [(.int (0 : Int32))])
    refine Goes.step ?_ (fun _ k => XS.istoreN X0.here hx rfl (hb hby d11_54) rfl (l' := #[rv a1, iv (3 : Int32), iv (2 : Int32), iv (0 : Int32)]) rfl k)
    show Goes p e below _ (sF s₁ m 55 #[rv a1, iv (3 : Int32), iv (2 : Int32), iv (0 : Int32)] [])
    refine Goes.step ?_ (fun _ k => XS.iloadN X0.here hx rfl (hb hby d11_55) rfl  k)
    show Goes p e below _ (sF s₁ m 56 #[rv a1, iv (3 : Int32), iv (2 : Int32), iv (0 : Int32)] [(.int (2 : Int32))])
    refine Goes.step ?_ (fun _ k => XS.iconst X0.here hx rfl (hb hby d11_56) k)
    show Goes p e below _ (sF s₁ m 57 #[rv a1, iv (3 : Int32), iv (2 : Int32), iv (0 : Int32)] [(.int (2 : Int32)), (.int (2 : Int32))])
    refine Goes.step ?_ (fun _ k => XS.icmpYes X0.here hx rfl (pc0 := 57) (pc' := 83) rfl (hb hby d11_57) rfl (flt (by decide : ¬ ((2 : Int32) < (2 : Int32)))).2.2.2 (by decide) (by decide) k)
    show Goes p e below _ (sF s₁ m 83 #[rv a1, iv (3 : Int32), iv (2 : Int32), iv (0 : Int32)] [])
    refine Goes.step ?_ (fun _ k => XS.iloadN X0.here hx rfl (hb hby d11_83) rfl  k)
    show Goes p e below _ (sF s₁ m 84 #[rv a1, iv (3 : Int32), iv (2 : Int32), iv (0 : Int32)] [(.int (0 : Int32))])
    refine own_out X0 hx hlk hret rfl (Or.inl ⟨rfl, by simp, _, rfl⟩) (hb hby d11_84) ?_ (by decide) (by decide)
    show QInt r h0 n0 _ s₁.heap _
    rw [e0]
    exact ⟨by rw [← hr]; simp [hc18_5], N0, rfl⟩
theorem ef_bor3_1 (m : MethodId) (x0 : Addr) (x1 : Int32) (x2 : Int32) : entryFrame m #[(.ref x0), (.int x1), (.int x2)] 4 = mkF m 0 #[rv x0, iv x1, iv x2, .unset] [] := by first | (simp [entryFrame, mkF, argsToLocals, Value.category]; done) | rfl
set_option maxRecDepth 65536 in
set_option maxHeartbeats 40000000 in
theorem rmBor3_1 (l : Launch) (Z : State) (a0 : Array Value) (hw : ∀ d ∈ tables_1, d.before a0 Z = true) (ws : List Jvm.Cond) (a1 : Addr) (ka : ClassId) (z : Int32) (pl : List Value) (b0 : Int32) (b1 : Int32) (b2 : Int32) (r : Int32) (h0 : Heap) (n0 : Nat) (Z0 : n0 ≤ h0.size) (V_a1 : Arv Z h0 a1 ka .byte z pl (.int (0 : Int32))) (hz0 : ¬ (0 : Int32) < 0 ∧ (0 : Int32) < z) (hz1 : ¬ (1 : Int32) < 0 ∧ (1 : Int32) < z) (hz2 : ¬ (2 : Int32) < 0 ∧ (2 : Int32) < z) (hp0 : pl.getD ((0 : Int32)).toNatClampNeg (.int (0 : Int32)) = .int b0) (hp1 : pl.getD ((1 : Int32)).toNatClampNeg (.int (0 : Int32)) = .int b1) (hp2 : pl.getD ((2 : Int32)).toNatClampNeg (.int (0 : Int32)) = .int b2) (hr : (if b0 = b2 then (1 : Int32) else 0) = r) :
    MetFree l (⟨"com/example/borderline/borderline/BorderTableShiftedPinLaw", "border", "([BII)Z"⟩ : MethodName) (head1 (Jvm.Cond.code (⟨"com/example/borderline/borderline/BorderTableShiftedPinLaw", "border", "([BII)Z"⟩ : MethodName) method_2_code 4 (some .boolean) :: ws) ({ frames := 0, cells := 0, slots := 0, locals := 0 } : Room)) (fun a U => a = #[(.ref a1), (.int (3 : Int32)), (.int (1 : Int32))] ∧ Z.Warmed39 U.vm ∧ U.heap = h0) (fun _ _ _ _ _ => True) (fun _ U o U' => ∃ v L, o = .returned v ∧ QInt r h0 n0 v U'.heap L ∧ FrameEnd U o U' L ({ frames := 0, cells := 0, slots := 0, locals := 0 } : Room).cells ({ frames := 0, cells := 0, slots := 0, locals := 0 } : Room).slots) := by
  refine MetFree.of_bodySF (plainFor_of_name pn_com_example_borderline_borderline_BorderTableShiftedPinLaw) hisR ?_
  intro p e s m args below meth c s₁ Bd hml0 hP hK
  obtain ⟨rfl, hZ, hh⟩ := hP
  have hx := Bd.exec
  have hby := Bd.bytes
  have hlk : meth.locks = false := BodyLoose.notSynchronized Bd
  have hml : c.maxLocals = 4 := hml0
  have hown : s.vm.findClass "com/example/borderline/borderline/BorderTableShiftedPinLaw" = some m.cls := findClass_of_methodNamed Bd.named
  have hnm := (name_of_methodNamed Bd.named Bd.method).1
  have X0 : Stand p l e ({ frames := 0, cells := 0, slots := 0, locals := 0 } : Room) s m #[(.ref a1), (.int (3 : Int32)), (.int (1 : Int32))] below meth c s₁ [] 0 0 := Stand.of_body Bd
  have e0 : s₁.heap = h0 := by rw [← hh, Bd.state]; rfl
  have N0 := Fr.nil n0
  have hret := Bd.returns
  show Goes p e below (fun o U' => ∃ v L, o = .returned v ∧ QInt r h0 n0 v U'.heap L ∧ FrameEnd s o U' L ({ frames := 0, cells := 0, slots := 0, locals := 0 } : Room).cells ({ frames := 0, cells := 0, slots := 0, locals := 0 } : Room).slots) (s₁.setTop (entryFrame m #[(.ref a1), (.int (3 : Int32)), (.int (1 : Int32))] 4))
  refine Goes.step ?_ (fun _ k => castTop (ef_bor3_1 m a1 (3 : Int32) (1 : Int32)) k)
  show Goes p e below _ (sF s₁ m 0 #[rv a1, iv (3 : Int32), iv (1 : Int32), .unset] [])
  refine Goes.step ?_ (fun _ k => XS.iconst X0.here hx rfl (hb hby d11_0) k)
  show Goes p e below _ (sF s₁ m 1 #[rv a1, iv (3 : Int32), iv (1 : Int32), .unset] [(.int (1 : Int32))])
  refine Goes.step ?_ (fun _ k => XS.istoreN X0.here hx rfl (hb hby d11_1) rfl (l' := #[rv a1, iv (3 : Int32), iv (1 : Int32), iv (1 : Int32)]) rfl k)
  show Goes p e below _ (sF s₁ m 2 #[rv a1, iv (3 : Int32), iv (1 : Int32), iv (1 : Int32)] [])
  refine Goes.step ?_ (fun _ k => XS.iloadN X0.here hx rfl (hb hby d11_2) rfl  k)
  show Goes p e below _ (sF s₁ m 3 #[rv a1, iv (3 : Int32), iv (1 : Int32), iv (1 : Int32)] [(.int (1 : Int32))])
  refine Goes.step ?_ (fun _ k => XS.ifNo X0.here hx rfl (hb hby d11_3) rfl ((if0 _ _).trans (tlt (by decide : (0 : Int32) < (1 : Int32))).2.2.2) k)
  show Goes p e below _ (sF s₁ m 6 #[rv a1, iv (3 : Int32), iv (1 : Int32), iv (1 : Int32)] [])
  refine Goes.step ?_ (fun _ k => XS.iloadN X0.here hx rfl (hb hby d11_6) rfl  k)
  show Goes p e below _ (sF s₁ m 7 #[rv a1, iv (3 : Int32), iv (1 : Int32), iv (1 : Int32)] [(.int (1 : Int32))])
  refine Goes.step ?_ (fun _ k => XS.ifNo X0.here hx rfl (hb hby d11_7) rfl ((if0 _ _).trans (feq (by decide : ¬ ((1 : Int32) = (0 : Int32)))).1) k)
  show Goes p e below _ (sF s₁ m 10 #[rv a1, iv (3 : Int32), iv (1 : Int32), iv (1 : Int32)] [])
  refine Goes.step ?_ (fun _ k => XS.aloadN X0.here hx rfl (hb hby d11_10) rfl rfl k)
  show Goes p e below _ (sF s₁ m 11 #[rv a1, iv (3 : Int32), iv (1 : Int32), iv (1 : Int32)] [(.ref a1)])
  refine Goes.step ?_ (fun _ k => XS.iconst X0.here hx rfl (hb hby d11_11) k)
  show Goes p e below _ (sF s₁ m 12 #[rv a1, iv (3 : Int32), iv (1 : Int32), iv (1 : Int32)] [(.int (0 : Int32)), (.ref a1)])
  obtain ⟨cl1, Ar1, q1, S1, N_1, H1, G1⟩ := id V_a1
  have hin2 : ¬ ((0 : Int32) < 0 ∨ cl1.slots.size ≤ ((0 : Int32)).toNatClampNeg) := inb_of S1 hz0
  have hat2 : cl1.slots[((0 : Int32)).toNatClampNeg]? = some (.int b0) := H1.at hin2 hp0
  refine Goes.step ?_ (fun _ k => X0.baloadBytes hx (j := (0 : Int32)) (v := (.int b0)) (by rw [e0]; exact Ar1.1) (State.isArrayOf_alike hZ.alike Ar1.2.1) Ar1.2.2 hin2 hat2 (g := (mkF m 12 #[rv a1, iv (3 : Int32), iv (1 : Int32), iv (1 : Int32)] [(.int (0 : Int32)), (.ref a1)])) rfl rfl (hb hby d11_12) _ k)
  show Goes p e below _ (sF s₁ m 13 #[rv a1, iv (3 : Int32), iv (1 : Int32), iv (1 : Int32)] [(.int b0)])
  refine Goes.step ?_ (fun _ k => XS.aloadN X0.here hx rfl (hb hby d11_13) rfl rfl k)
  show Goes p e below _ (sF s₁ m 14 #[rv a1, iv (3 : Int32), iv (1 : Int32), iv (1 : Int32)] [(.ref a1), (.int b0)])
  refine Goes.step ?_ (fun _ k => XS.iloadN X0.here hx rfl (hb hby d11_14) rfl  k)
  show Goes p e below _ (sF s₁ m 15 #[rv a1, iv (3 : Int32), iv (1 : Int32), iv (1 : Int32)] [(.int (3 : Int32)), (.ref a1), (.int b0)])
  refine Goes.step ?_ (fun _ k => XS.iloadN X0.here hx rfl (hb hby d11_15) rfl  k)
  show Goes p e below _ (sF s₁ m 16 #[rv a1, iv (3 : Int32), iv (1 : Int32), iv (1 : Int32)] [(.int (1 : Int32)), (.int (3 : Int32)), (.ref a1), (.int b0)])
  refine Goes.step ?_ (fun _ k => XS.isub X0.here hx rfl (hb hby d11_16) rfl k)
  show Goes p e below _ (sF s₁ m 17 #[rv a1, iv (3 : Int32), iv (1 : Int32), iv (1 : Int32)] [(.int ((3 : Int32) - (1 : Int32))), (.ref a1), (.int b0)])
  rw [show ((3 : Int32) - (1 : Int32)) = (2 : Int32) from by decide]
  show Goes p e below _ (sF s₁ m 17 #[rv a1, iv (3 : Int32), iv (1 : Int32), iv (1 : Int32)] [(.int (2 : Int32)), (.ref a1), (.int b0)])
  obtain ⟨cl3, Ar3, q3, S3, N_3, H3, G3⟩ := id V_a1
  have hin4 : ¬ ((2 : Int32) < 0 ∨ cl3.slots.size ≤ ((2 : Int32)).toNatClampNeg) := inb_of S3 hz2
  have hat4 : cl3.slots[((2 : Int32)).toNatClampNeg]? = some (.int b2) := H3.at hin4 hp2
  refine Goes.step ?_ (fun _ k => X0.baloadBytes hx (j := (2 : Int32)) (v := (.int b2)) (by rw [e0]; exact Ar3.1) (State.isArrayOf_alike hZ.alike Ar3.2.1) Ar3.2.2 hin4 hat4 (g := (mkF m 17 #[rv a1, iv (3 : Int32), iv (1 : Int32), iv (1 : Int32)] [(.int (2 : Int32)), (.ref a1), (.int b0)])) rfl rfl (hb hby d11_17) _ k)
  show Goes p e below _ (sF s₁ m 18 #[rv a1, iv (3 : Int32), iv (1 : Int32), iv (1 : Int32)] [(.int b2), (.int b0)])
  by_cases hc18_5 : b0 = b2
  · refine Goes.step ?_ (fun _ k => XS.icmpNo X0.here hx rfl (hb hby d11_18) rfl (teq hc18_5).2 k)
    show Goes p e below _ (sF s₁ m 21 #[rv a1, iv (3 : Int32), iv (1 : Int32), iv (1 : Int32)] [])
    refine Goes.step ?_ (fun _ k => XS.iconst X0.here hx rfl (hb hby d11_21) k)
    show Goes p e below _ (sF s₁ m 22 #[rv a1, iv (3 : Int32), iv (1 : Int32), iv (1 : Int32)] [(.int (1 : Int32))])
    refine Goes.step ?_ (fun _ k => XS.goto X0.here hx rfl (pc0 := 22) (pc' := 26) rfl (hb hby d11_22) (by decide) (by decide) k)
    show Goes p e below _ (sF s₁ m 26 #[rv a1, iv (3 : Int32), iv (1 : Int32), iv (1 : Int32)] [(.int (1 : Int32))])
    refine Goes.step ?_ (fun _ k => XS.istoreN X0.here hx rfl (hb hby d11_26) rfl (l' := #[rv a1, iv (3 : Int32), iv (1 : Int32), iv (1 : Int32)]) rfl k)
    show Goes p e below _ (sF s₁ m 27 #[rv a1, iv (3 : Int32), iv (1 : Int32), iv (1 : Int32)] [])
    refine Goes.step ?_ (fun _ k => XS.iloadN X0.here hx rfl (hb hby d11_27) rfl  k)
    show Goes p e below _ (sF s₁ m 28 #[rv a1, iv (3 : Int32), iv (1 : Int32), iv (1 : Int32)] [(.int (1 : Int32))])
    refine Goes.step ?_ (fun _ k => XS.iconst X0.here hx rfl (hb hby d11_28) k)
    show Goes p e below _ (sF s₁ m 29 #[rv a1, iv (3 : Int32), iv (1 : Int32), iv (1 : Int32)] [(.int (1 : Int32)), (.int (1 : Int32))])
    refine Goes.step ?_ (fun _ k => XS.icmpYes X0.here hx rfl (pc0 := 29) (pc' := 55) rfl (hb hby d11_29) rfl (flt (by decide : ¬ ((1 : Int32) < (1 : Int32)))).2.2.2 (by decide) (by decide) k)
    show Goes p e below _ (sF s₁ m 55 #[rv a1, iv (3 : Int32), iv (1 : Int32), iv (1 : Int32)] [])
    refine Goes.step ?_ (fun _ k => XS.iloadN X0.here hx rfl (hb hby d11_55) rfl  k)
    show Goes p e below _ (sF s₁ m 56 #[rv a1, iv (3 : Int32), iv (1 : Int32), iv (1 : Int32)] [(.int (1 : Int32))])
    refine Goes.step ?_ (fun _ k => XS.iconst X0.here hx rfl (hb hby d11_56) k)
    show Goes p e below _ (sF s₁ m 57 #[rv a1, iv (3 : Int32), iv (1 : Int32), iv (1 : Int32)] [(.int (2 : Int32)), (.int (1 : Int32))])
    refine Goes.step ?_ (fun _ k => XS.icmpYes X0.here hx rfl (pc0 := 57) (pc' := 83) rfl (hb hby d11_57) rfl (flt (by decide : ¬ ((2 : Int32) < (1 : Int32)))).2.2.2 (by decide) (by decide) k)
    show Goes p e below _ (sF s₁ m 83 #[rv a1, iv (3 : Int32), iv (1 : Int32), iv (1 : Int32)] [])
    refine Goes.step ?_ (fun _ k => XS.iloadN X0.here hx rfl (hb hby d11_83) rfl  k)
    show Goes p e below _ (sF s₁ m 84 #[rv a1, iv (3 : Int32), iv (1 : Int32), iv (1 : Int32)] [(.int (1 : Int32))])
    refine own_out X0 hx hlk hret rfl (Or.inl ⟨rfl, by simp, _, rfl⟩) (hb hby d11_84) ?_ (by decide) (by decide)
    show QInt r h0 n0 _ s₁.heap _
    rw [e0]
    exact ⟨by rw [← hr]; simp [hc18_5], N0, rfl⟩
  · refine Goes.step ?_ (fun _ k => XS.icmpYes X0.here hx rfl (pc0 := 18) (pc' := 25) rfl (hb hby d11_18) rfl (feq hc18_5).2 (by decide) (by decide) k)
    show Goes p e below _ (sF s₁ m 25 #[rv a1, iv (3 : Int32), iv (1 : Int32), iv (1 : Int32)] [])
    refine Goes.step ?_ (fun _ k => XS.iconst X0.here hx rfl (hb hby d11_25) k)
    show Goes p e below _ (sF s₁ m 26 #[rv a1, iv (3 : Int32), iv (1 : Int32), iv (1 : Int32)] [(.int (0 : Int32))])
    refine Goes.step ?_ (fun _ k => XS.istoreN X0.here hx rfl (hb hby d11_26) rfl (l' := #[rv a1, iv (3 : Int32), iv (1 : Int32), iv (0 : Int32)]) rfl k)
    show Goes p e below _ (sF s₁ m 27 #[rv a1, iv (3 : Int32), iv (1 : Int32), iv (0 : Int32)] [])
    refine Goes.step ?_ (fun _ k => XS.iloadN X0.here hx rfl (hb hby d11_27) rfl  k)
    show Goes p e below _ (sF s₁ m 28 #[rv a1, iv (3 : Int32), iv (1 : Int32), iv (0 : Int32)] [(.int (1 : Int32))])
    refine Goes.step ?_ (fun _ k => XS.iconst X0.here hx rfl (hb hby d11_28) k)
    show Goes p e below _ (sF s₁ m 29 #[rv a1, iv (3 : Int32), iv (1 : Int32), iv (0 : Int32)] [(.int (1 : Int32)), (.int (1 : Int32))])
    refine Goes.step ?_ (fun _ k => XS.icmpYes X0.here hx rfl (pc0 := 29) (pc' := 55) rfl (hb hby d11_29) rfl (flt (by decide : ¬ ((1 : Int32) < (1 : Int32)))).2.2.2 (by decide) (by decide) k)
    show Goes p e below _ (sF s₁ m 55 #[rv a1, iv (3 : Int32), iv (1 : Int32), iv (0 : Int32)] [])
    refine Goes.step ?_ (fun _ k => XS.iloadN X0.here hx rfl (hb hby d11_55) rfl  k)
    show Goes p e below _ (sF s₁ m 56 #[rv a1, iv (3 : Int32), iv (1 : Int32), iv (0 : Int32)] [(.int (1 : Int32))])
    refine Goes.step ?_ (fun _ k => XS.iconst X0.here hx rfl (hb hby d11_56) k)
    show Goes p e below _ (sF s₁ m 57 #[rv a1, iv (3 : Int32), iv (1 : Int32), iv (0 : Int32)] [(.int (2 : Int32)), (.int (1 : Int32))])
    refine Goes.step ?_ (fun _ k => XS.icmpYes X0.here hx rfl (pc0 := 57) (pc' := 83) rfl (hb hby d11_57) rfl (flt (by decide : ¬ ((2 : Int32) < (1 : Int32)))).2.2.2 (by decide) (by decide) k)
    show Goes p e below _ (sF s₁ m 83 #[rv a1, iv (3 : Int32), iv (1 : Int32), iv (0 : Int32)] [])
    refine Goes.step ?_ (fun _ k => XS.iloadN X0.here hx rfl (hb hby d11_83) rfl  k)
    show Goes p e below _ (sF s₁ m 84 #[rv a1, iv (3 : Int32), iv (1 : Int32), iv (0 : Int32)] [(.int (0 : Int32))])
    refine own_out X0 hx hlk hret rfl (Or.inl ⟨rfl, by simp, _, rfl⟩) (hb hby d11_84) ?_ (by decide) (by decide)
    show QInt r h0 n0 _ s₁.heap _
    rw [e0]
    exact ⟨by rw [← hr]; simp [hc18_5], N0, rfl⟩
theorem ef_bor4_3 (m : MethodId) (x0 : Addr) (x1 : Int32) (x2 : Int32) : entryFrame m #[(.ref x0), (.int x1), (.int x2)] 4 = mkF m 0 #[rv x0, iv x1, iv x2, .unset] [] := by first | (simp [entryFrame, mkF, argsToLocals, Value.category]; done) | rfl
theorem d11_60 : decode method_2_code 60 = .ok (.iload_n 3, 1) := by decide +kernel
theorem d11_61 : decode method_2_code 61 = .ok (.ifCond .eq 20, 3) := by decide +kernel
theorem d11_64 : decode method_2_code 64 = .ok (.aload_n 0, 1) := by decide +kernel
theorem d11_65 : decode method_2_code 65 = .ok (.iconst 2, 1) := by decide +kernel
theorem d11_66 : decode method_2_code 66 = .ok (.baload, 1) := by decide +kernel
theorem d11_67 : decode method_2_code 67 = .ok (.aload_n 0, 1) := by decide +kernel
theorem d11_68 : decode method_2_code 68 = .ok (.iload_n 1, 1) := by decide +kernel
theorem d11_69 : decode method_2_code 69 = .ok (.iload_n 2, 1) := by decide +kernel
theorem d11_70 : decode method_2_code 70 = .ok (.isub, 1) := by decide +kernel
theorem d11_71 : decode method_2_code 71 = .ok (.iconst 2, 1) := by decide +kernel
theorem d11_72 : decode method_2_code 72 = .ok (.iadd, 1) := by decide +kernel
theorem d11_73 : decode method_2_code 73 = .ok (.baload, 1) := by decide +kernel
theorem d11_74 : decode method_2_code 74 = .ok (.if_icmp .ne 7, 3) := by decide +kernel
theorem d11_77 : decode method_2_code 77 = .ok (.iconst 1, 1) := by decide +kernel
theorem d11_78 : decode method_2_code 78 = .ok (.goto 4, 3) := by decide +kernel
theorem d11_82 : decode method_2_code 82 = .ok (.istore_n 3, 1) := by decide +kernel
theorem d11_81 : decode method_2_code 81 = .ok (.iconst 0, 1) := by decide +kernel
set_option maxRecDepth 65536 in
set_option maxHeartbeats 40000000 in
theorem rmBor4_3 (l : Launch) (Z : State) (a0 : Array Value) (hw : ∀ d ∈ tables_1, d.before a0 Z = true) (ws : List Jvm.Cond) (a1 : Addr) (ka : ClassId) (z : Int32) (pl : List Value) (b0 : Int32) (b1 : Int32) (b2 : Int32) (b3 : Int32) (r : Int32) (h0 : Heap) (n0 : Nat) (Z0 : n0 ≤ h0.size) (V_a1 : Arv Z h0 a1 ka .byte z pl (.int (0 : Int32))) (hz0 : ¬ (0 : Int32) < 0 ∧ (0 : Int32) < z) (hz1 : ¬ (1 : Int32) < 0 ∧ (1 : Int32) < z) (hz2 : ¬ (2 : Int32) < 0 ∧ (2 : Int32) < z) (hz3 : ¬ (3 : Int32) < 0 ∧ (3 : Int32) < z) (hp0 : pl.getD ((0 : Int32)).toNatClampNeg (.int (0 : Int32)) = .int b0) (hp1 : pl.getD ((1 : Int32)).toNatClampNeg (.int (0 : Int32)) = .int b1) (hp2 : pl.getD ((2 : Int32)).toNatClampNeg (.int (0 : Int32)) = .int b2) (hp3 : pl.getD ((3 : Int32)).toNatClampNeg (.int (0 : Int32)) = .int b3) (hr : (if b0 = b1 ∧ b1 = b2 ∧ b2 = b3 then (1 : Int32) else 0) = r) :
    MetFree l (⟨"com/example/borderline/borderline/BorderTableShiftedPinLaw", "border", "([BII)Z"⟩ : MethodName) (head1 (Jvm.Cond.code (⟨"com/example/borderline/borderline/BorderTableShiftedPinLaw", "border", "([BII)Z"⟩ : MethodName) method_2_code 4 (some .boolean) :: ws) ({ frames := 0, cells := 0, slots := 0, locals := 0 } : Room)) (fun a U => a = #[(.ref a1), (.int (4 : Int32)), (.int (3 : Int32))] ∧ Z.Warmed39 U.vm ∧ U.heap = h0) (fun _ _ _ _ _ => True) (fun _ U o U' => ∃ v L, o = .returned v ∧ QInt r h0 n0 v U'.heap L ∧ FrameEnd U o U' L ({ frames := 0, cells := 0, slots := 0, locals := 0 } : Room).cells ({ frames := 0, cells := 0, slots := 0, locals := 0 } : Room).slots) := by
  refine MetFree.of_bodySF (plainFor_of_name pn_com_example_borderline_borderline_BorderTableShiftedPinLaw) hisR ?_
  intro p e s m args below meth c s₁ Bd hml0 hP hK
  obtain ⟨rfl, hZ, hh⟩ := hP
  have hx := Bd.exec
  have hby := Bd.bytes
  have hlk : meth.locks = false := BodyLoose.notSynchronized Bd
  have hml : c.maxLocals = 4 := hml0
  have hown : s.vm.findClass "com/example/borderline/borderline/BorderTableShiftedPinLaw" = some m.cls := findClass_of_methodNamed Bd.named
  have hnm := (name_of_methodNamed Bd.named Bd.method).1
  have X0 : Stand p l e ({ frames := 0, cells := 0, slots := 0, locals := 0 } : Room) s m #[(.ref a1), (.int (4 : Int32)), (.int (3 : Int32))] below meth c s₁ [] 0 0 := Stand.of_body Bd
  have e0 : s₁.heap = h0 := by rw [← hh, Bd.state]; rfl
  have N0 := Fr.nil n0
  have hret := Bd.returns
  show Goes p e below (fun o U' => ∃ v L, o = .returned v ∧ QInt r h0 n0 v U'.heap L ∧ FrameEnd s o U' L ({ frames := 0, cells := 0, slots := 0, locals := 0 } : Room).cells ({ frames := 0, cells := 0, slots := 0, locals := 0 } : Room).slots) (s₁.setTop (entryFrame m #[(.ref a1), (.int (4 : Int32)), (.int (3 : Int32))] 4))
  refine Goes.step ?_ (fun _ k => castTop (ef_bor4_3 m a1 (4 : Int32) (3 : Int32)) k)
  show Goes p e below _ (sF s₁ m 0 #[rv a1, iv (4 : Int32), iv (3 : Int32), .unset] [])
  refine Goes.step ?_ (fun _ k => XS.iconst X0.here hx rfl (hb hby d11_0) k)
  show Goes p e below _ (sF s₁ m 1 #[rv a1, iv (4 : Int32), iv (3 : Int32), .unset] [(.int (1 : Int32))])
  refine Goes.step ?_ (fun _ k => XS.istoreN X0.here hx rfl (hb hby d11_1) rfl (l' := #[rv a1, iv (4 : Int32), iv (3 : Int32), iv (1 : Int32)]) rfl k)
  show Goes p e below _ (sF s₁ m 2 #[rv a1, iv (4 : Int32), iv (3 : Int32), iv (1 : Int32)] [])
  refine Goes.step ?_ (fun _ k => XS.iloadN X0.here hx rfl (hb hby d11_2) rfl  k)
  show Goes p e below _ (sF s₁ m 3 #[rv a1, iv (4 : Int32), iv (3 : Int32), iv (1 : Int32)] [(.int (3 : Int32))])
  refine Goes.step ?_ (fun _ k => XS.ifNo X0.here hx rfl (hb hby d11_3) rfl ((if0 _ _).trans (tlt (by decide : (0 : Int32) < (3 : Int32))).2.2.2) k)
  show Goes p e below _ (sF s₁ m 6 #[rv a1, iv (4 : Int32), iv (3 : Int32), iv (1 : Int32)] [])
  refine Goes.step ?_ (fun _ k => XS.iloadN X0.here hx rfl (hb hby d11_6) rfl  k)
  show Goes p e below _ (sF s₁ m 7 #[rv a1, iv (4 : Int32), iv (3 : Int32), iv (1 : Int32)] [(.int (1 : Int32))])
  refine Goes.step ?_ (fun _ k => XS.ifNo X0.here hx rfl (hb hby d11_7) rfl ((if0 _ _).trans (feq (by decide : ¬ ((1 : Int32) = (0 : Int32)))).1) k)
  show Goes p e below _ (sF s₁ m 10 #[rv a1, iv (4 : Int32), iv (3 : Int32), iv (1 : Int32)] [])
  refine Goes.step ?_ (fun _ k => XS.aloadN X0.here hx rfl (hb hby d11_10) rfl rfl k)
  show Goes p e below _ (sF s₁ m 11 #[rv a1, iv (4 : Int32), iv (3 : Int32), iv (1 : Int32)] [(.ref a1)])
  refine Goes.step ?_ (fun _ k => XS.iconst X0.here hx rfl (hb hby d11_11) k)
  show Goes p e below _ (sF s₁ m 12 #[rv a1, iv (4 : Int32), iv (3 : Int32), iv (1 : Int32)] [(.int (0 : Int32)), (.ref a1)])
  obtain ⟨cl1, Ar1, q1, S1, N_1, H1, G1⟩ := id V_a1
  have hin2 : ¬ ((0 : Int32) < 0 ∨ cl1.slots.size ≤ ((0 : Int32)).toNatClampNeg) := inb_of S1 hz0
  have hat2 : cl1.slots[((0 : Int32)).toNatClampNeg]? = some (.int b0) := H1.at hin2 hp0
  refine Goes.step ?_ (fun _ k => X0.baloadBytes hx (j := (0 : Int32)) (v := (.int b0)) (by rw [e0]; exact Ar1.1) (State.isArrayOf_alike hZ.alike Ar1.2.1) Ar1.2.2 hin2 hat2 (g := (mkF m 12 #[rv a1, iv (4 : Int32), iv (3 : Int32), iv (1 : Int32)] [(.int (0 : Int32)), (.ref a1)])) rfl rfl (hb hby d11_12) _ k)
  show Goes p e below _ (sF s₁ m 13 #[rv a1, iv (4 : Int32), iv (3 : Int32), iv (1 : Int32)] [(.int b0)])
  refine Goes.step ?_ (fun _ k => XS.aloadN X0.here hx rfl (hb hby d11_13) rfl rfl k)
  show Goes p e below _ (sF s₁ m 14 #[rv a1, iv (4 : Int32), iv (3 : Int32), iv (1 : Int32)] [(.ref a1), (.int b0)])
  refine Goes.step ?_ (fun _ k => XS.iloadN X0.here hx rfl (hb hby d11_14) rfl  k)
  show Goes p e below _ (sF s₁ m 15 #[rv a1, iv (4 : Int32), iv (3 : Int32), iv (1 : Int32)] [(.int (4 : Int32)), (.ref a1), (.int b0)])
  refine Goes.step ?_ (fun _ k => XS.iloadN X0.here hx rfl (hb hby d11_15) rfl  k)
  show Goes p e below _ (sF s₁ m 16 #[rv a1, iv (4 : Int32), iv (3 : Int32), iv (1 : Int32)] [(.int (3 : Int32)), (.int (4 : Int32)), (.ref a1), (.int b0)])
  refine Goes.step ?_ (fun _ k => XS.isub X0.here hx rfl (hb hby d11_16) rfl k)
  show Goes p e below _ (sF s₁ m 17 #[rv a1, iv (4 : Int32), iv (3 : Int32), iv (1 : Int32)] [(.int ((4 : Int32) - (3 : Int32))), (.ref a1), (.int b0)])
  rw [show ((4 : Int32) - (3 : Int32)) = (1 : Int32) from by decide]
  show Goes p e below _ (sF s₁ m 17 #[rv a1, iv (4 : Int32), iv (3 : Int32), iv (1 : Int32)] [(.int (1 : Int32)), (.ref a1), (.int b0)])
  obtain ⟨cl3, Ar3, q3, S3, N_3, H3, G3⟩ := id V_a1
  have hin4 : ¬ ((1 : Int32) < 0 ∨ cl3.slots.size ≤ ((1 : Int32)).toNatClampNeg) := inb_of S3 hz1
  have hat4 : cl3.slots[((1 : Int32)).toNatClampNeg]? = some (.int b1) := H3.at hin4 hp1
  refine Goes.step ?_ (fun _ k => X0.baloadBytes hx (j := (1 : Int32)) (v := (.int b1)) (by rw [e0]; exact Ar3.1) (State.isArrayOf_alike hZ.alike Ar3.2.1) Ar3.2.2 hin4 hat4 (g := (mkF m 17 #[rv a1, iv (4 : Int32), iv (3 : Int32), iv (1 : Int32)] [(.int (1 : Int32)), (.ref a1), (.int b0)])) rfl rfl (hb hby d11_17) _ k)
  show Goes p e below _ (sF s₁ m 18 #[rv a1, iv (4 : Int32), iv (3 : Int32), iv (1 : Int32)] [(.int b1), (.int b0)])
  by_cases hc18_5 : b0 = b1
  · refine Goes.step ?_ (fun _ k => XS.icmpNo X0.here hx rfl (hb hby d11_18) rfl (teq hc18_5).2 k)
    show Goes p e below _ (sF s₁ m 21 #[rv a1, iv (4 : Int32), iv (3 : Int32), iv (1 : Int32)] [])
    refine Goes.step ?_ (fun _ k => XS.iconst X0.here hx rfl (hb hby d11_21) k)
    show Goes p e below _ (sF s₁ m 22 #[rv a1, iv (4 : Int32), iv (3 : Int32), iv (1 : Int32)] [(.int (1 : Int32))])
    refine Goes.step ?_ (fun _ k => XS.goto X0.here hx rfl (pc0 := 22) (pc' := 26) rfl (hb hby d11_22) (by decide) (by decide) k)
    show Goes p e below _ (sF s₁ m 26 #[rv a1, iv (4 : Int32), iv (3 : Int32), iv (1 : Int32)] [(.int (1 : Int32))])
    refine Goes.step ?_ (fun _ k => XS.istoreN X0.here hx rfl (hb hby d11_26) rfl (l' := #[rv a1, iv (4 : Int32), iv (3 : Int32), iv (1 : Int32)]) rfl k)
    show Goes p e below _ (sF s₁ m 27 #[rv a1, iv (4 : Int32), iv (3 : Int32), iv (1 : Int32)] [])
    refine Goes.step ?_ (fun _ k => XS.iloadN X0.here hx rfl (hb hby d11_27) rfl  k)
    show Goes p e below _ (sF s₁ m 28 #[rv a1, iv (4 : Int32), iv (3 : Int32), iv (1 : Int32)] [(.int (3 : Int32))])
    refine Goes.step ?_ (fun _ k => XS.iconst X0.here hx rfl (hb hby d11_28) k)
    show Goes p e below _ (sF s₁ m 29 #[rv a1, iv (4 : Int32), iv (3 : Int32), iv (1 : Int32)] [(.int (1 : Int32)), (.int (3 : Int32))])
    refine Goes.step ?_ (fun _ k => XS.icmpNo X0.here hx rfl (hb hby d11_29) rfl (tlt (by decide : (1 : Int32) < (3 : Int32))).2.2.2 k)
    show Goes p e below _ (sF s₁ m 32 #[rv a1, iv (4 : Int32), iv (3 : Int32), iv (1 : Int32)] [])
    refine Goes.step ?_ (fun _ k => XS.iloadN X0.here hx rfl (hb hby d11_32) rfl  k)
    show Goes p e below _ (sF s₁ m 33 #[rv a1, iv (4 : Int32), iv (3 : Int32), iv (1 : Int32)] [(.int (1 : Int32))])
    refine Goes.step ?_ (fun _ k => XS.ifNo X0.here hx rfl (hb hby d11_33) rfl ((if0 _ _).trans (feq (by decide : ¬ ((1 : Int32) = (0 : Int32)))).1) k)
    show Goes p e below _ (sF s₁ m 36 #[rv a1, iv (4 : Int32), iv (3 : Int32), iv (1 : Int32)] [])
    refine Goes.step ?_ (fun _ k => XS.aloadN X0.here hx rfl (hb hby d11_36) rfl rfl k)
    show Goes p e below _ (sF s₁ m 37 #[rv a1, iv (4 : Int32), iv (3 : Int32), iv (1 : Int32)] [(.ref a1)])
    refine Goes.step ?_ (fun _ k => XS.iconst X0.here hx rfl (hb hby d11_37) k)
    show Goes p e below _ (sF s₁ m 38 #[rv a1, iv (4 : Int32), iv (3 : Int32), iv (1 : Int32)] [(.int (1 : Int32)), (.ref a1)])
    obtain ⟨cl6, Ar6, q6, S6, N_6, H6, G6⟩ := id V_a1
    have hin7 : ¬ ((1 : Int32) < 0 ∨ cl6.slots.size ≤ ((1 : Int32)).toNatClampNeg) := inb_of S6 hz1
    have hat7 : cl6.slots[((1 : Int32)).toNatClampNeg]? = some (.int b1) := H6.at hin7 hp1
    refine Goes.step ?_ (fun _ k => X0.baloadBytes hx (j := (1 : Int32)) (v := (.int b1)) (by rw [e0]; exact Ar6.1) (State.isArrayOf_alike hZ.alike Ar6.2.1) Ar6.2.2 hin7 hat7 (g := (mkF m 38 #[rv a1, iv (4 : Int32), iv (3 : Int32), iv (1 : Int32)] [(.int (1 : Int32)), (.ref a1)])) rfl rfl (hb hby d11_38) _ k)
    show Goes p e below _ (sF s₁ m 39 #[rv a1, iv (4 : Int32), iv (3 : Int32), iv (1 : Int32)] [(.int b1)])
    refine Goes.step ?_ (fun _ k => XS.aloadN X0.here hx rfl (hb hby d11_39) rfl rfl k)
    show Goes p e below _ (sF s₁ m 40 #[rv a1, iv (4 : Int32), iv (3 : Int32), iv (1 : Int32)] [(.ref a1), (.int b1)])
    refine Goes.step ?_ (fun _ k => XS.iloadN X0.here hx rfl (hb hby d11_40) rfl  k)
    show Goes p e below _ (sF s₁ m 41 #[rv a1, iv (4 : Int32), iv (3 : Int32), iv (1 : Int32)] [(.int (4 : Int32)), (.ref a1), (.int b1)])
    refine Goes.step ?_ (fun _ k => XS.iloadN X0.here hx rfl (hb hby d11_41) rfl  k)
    show Goes p e below _ (sF s₁ m 42 #[rv a1, iv (4 : Int32), iv (3 : Int32), iv (1 : Int32)] [(.int (3 : Int32)), (.int (4 : Int32)), (.ref a1), (.int b1)])
    refine Goes.step ?_ (fun _ k => XS.isub X0.here hx rfl (hb hby d11_42) rfl k)
    show Goes p e below _ (sF s₁ m 43 #[rv a1, iv (4 : Int32), iv (3 : Int32), iv (1 : Int32)] [(.int ((4 : Int32) - (3 : Int32))), (.ref a1), (.int b1)])
    rw [show ((4 : Int32) - (3 : Int32)) = (1 : Int32) from by decide]
    show Goes p e below _ (sF s₁ m 43 #[rv a1, iv (4 : Int32), iv (3 : Int32), iv (1 : Int32)] [(.int (1 : Int32)), (.ref a1), (.int b1)])
    refine Goes.step ?_ (fun _ k => XS.iconst X0.here hx rfl (hb hby d11_43) k)
    show Goes p e below _ (sF s₁ m 44 #[rv a1, iv (4 : Int32), iv (3 : Int32), iv (1 : Int32)] [(.int (1 : Int32)), (.int (1 : Int32)), (.ref a1), (.int b1)])
    refine Goes.step ?_ (fun _ k => XS.iadd X0.here hx rfl (hb hby d11_44) rfl k)
    show Goes p e below _ (sF s₁ m 45 #[rv a1, iv (4 : Int32), iv (3 : Int32), iv (1 : Int32)] [(.int ((1 : Int32) + (1 : Int32))), (.ref a1), (.int b1)])
    rw [show ((1 : Int32) + (1 : Int32)) = (2 : Int32) from by decide]
    show Goes p e below _ (sF s₁ m 45 #[rv a1, iv (4 : Int32), iv (3 : Int32), iv (1 : Int32)] [(.int (2 : Int32)), (.ref a1), (.int b1)])
    obtain ⟨cl8, Ar8, q8, S8, N_8, H8, G8⟩ := id V_a1
    have hin9 : ¬ ((2 : Int32) < 0 ∨ cl8.slots.size ≤ ((2 : Int32)).toNatClampNeg) := inb_of S8 hz2
    have hat9 : cl8.slots[((2 : Int32)).toNatClampNeg]? = some (.int b2) := H8.at hin9 hp2
    refine Goes.step ?_ (fun _ k => X0.baloadBytes hx (j := (2 : Int32)) (v := (.int b2)) (by rw [e0]; exact Ar8.1) (State.isArrayOf_alike hZ.alike Ar8.2.1) Ar8.2.2 hin9 hat9 (g := (mkF m 45 #[rv a1, iv (4 : Int32), iv (3 : Int32), iv (1 : Int32)] [(.int (2 : Int32)), (.ref a1), (.int b1)])) rfl rfl (hb hby d11_45) _ k)
    show Goes p e below _ (sF s₁ m 46 #[rv a1, iv (4 : Int32), iv (3 : Int32), iv (1 : Int32)] [(.int b2), (.int b1)])
    by_cases hc46_10 : b1 = b2
    · refine Goes.step ?_ (fun _ k => XS.icmpNo X0.here hx rfl (hb hby d11_46) rfl (teq hc46_10).2 k)
      show Goes p e below _ (sF s₁ m 49 #[rv a1, iv (4 : Int32), iv (3 : Int32), iv (1 : Int32)] [])
      refine Goes.step ?_ (fun _ k => XS.iconst X0.here hx rfl (hb hby d11_49) k)
      show Goes p e below _ (sF s₁ m 50 #[rv a1, iv (4 : Int32), iv (3 : Int32), iv (1 : Int32)] [(.int (1 : Int32))])
      refine Goes.step ?_ (fun _ k => XS.goto X0.here hx rfl (pc0 := 50) (pc' := 54) rfl (hb hby d11_50) (by decide) (by decide) k)
      show Goes p e below _ (sF s₁ m 54 #[rv a1, iv (4 : Int32), iv (3 : Int32), iv (1 : Int32)] [(.int (1 : Int32))])
      refine Goes.step ?_ (fun _ k => XS.istoreN X0.here hx rfl (hb hby d11_54) rfl (l' := #[rv a1, iv (4 : Int32), iv (3 : Int32), iv (1 : Int32)]) rfl k)
      show Goes p e below _ (sF s₁ m 55 #[rv a1, iv (4 : Int32), iv (3 : Int32), iv (1 : Int32)] [])
      refine Goes.step ?_ (fun _ k => XS.iloadN X0.here hx rfl (hb hby d11_55) rfl  k)
      show Goes p e below _ (sF s₁ m 56 #[rv a1, iv (4 : Int32), iv (3 : Int32), iv (1 : Int32)] [(.int (3 : Int32))])
      refine Goes.step ?_ (fun _ k => XS.iconst X0.here hx rfl (hb hby d11_56) k)
      show Goes p e below _ (sF s₁ m 57 #[rv a1, iv (4 : Int32), iv (3 : Int32), iv (1 : Int32)] [(.int (2 : Int32)), (.int (3 : Int32))])
      refine Goes.step ?_ (fun _ k => XS.icmpNo X0.here hx rfl (hb hby d11_57) rfl (tlt (by decide : (2 : Int32) < (3 : Int32))).2.2.2 k)
      show Goes p e below _ (sF s₁ m 60 #[rv a1, iv (4 : Int32), iv (3 : Int32), iv (1 : Int32)] [])
      refine Goes.step ?_ (fun _ k => XS.iloadN X0.here hx rfl (hb hby d11_60) rfl  k)
      show Goes p e below _ (sF s₁ m 61 #[rv a1, iv (4 : Int32), iv (3 : Int32), iv (1 : Int32)] [(.int (1 : Int32))])
      refine Goes.step ?_ (fun _ k => XS.ifNo X0.here hx rfl (hb hby d11_61) rfl ((if0 _ _).trans (feq (by decide : ¬ ((1 : Int32) = (0 : Int32)))).1) k)
      show Goes p e below _ (sF s₁ m 64 #[rv a1, iv (4 : Int32), iv (3 : Int32), iv (1 : Int32)] [])
      refine Goes.step ?_ (fun _ k => XS.aloadN X0.here hx rfl (hb hby d11_64) rfl rfl k)
      show Goes p e below _ (sF s₁ m 65 #[rv a1, iv (4 : Int32), iv (3 : Int32), iv (1 : Int32)] [(.ref a1)])
      refine Goes.step ?_ (fun _ k => XS.iconst X0.here hx rfl (hb hby d11_65) k)
      show Goes p e below _ (sF s₁ m 66 #[rv a1, iv (4 : Int32), iv (3 : Int32), iv (1 : Int32)] [(.int (2 : Int32)), (.ref a1)])
      obtain ⟨cl11, Ar11, q11, S11, N_11, H11, G11⟩ := id V_a1
      have hin12 : ¬ ((2 : Int32) < 0 ∨ cl11.slots.size ≤ ((2 : Int32)).toNatClampNeg) := inb_of S11 hz2
      have hat12 : cl11.slots[((2 : Int32)).toNatClampNeg]? = some (.int b2) := H11.at hin12 hp2
      refine Goes.step ?_ (fun _ k => X0.baloadBytes hx (j := (2 : Int32)) (v := (.int b2)) (by rw [e0]; exact Ar11.1) (State.isArrayOf_alike hZ.alike Ar11.2.1) Ar11.2.2 hin12 hat12 (g := (mkF m 66 #[rv a1, iv (4 : Int32), iv (3 : Int32), iv (1 : Int32)] [(.int (2 : Int32)), (.ref a1)])) rfl rfl (hb hby d11_66) _ k)
      show Goes p e below _ (sF s₁ m 67 #[rv a1, iv (4 : Int32), iv (3 : Int32), iv (1 : Int32)] [(.int b2)])
      refine Goes.step ?_ (fun _ k => XS.aloadN X0.here hx rfl (hb hby d11_67) rfl rfl k)
      show Goes p e below _ (sF s₁ m 68 #[rv a1, iv (4 : Int32), iv (3 : Int32), iv (1 : Int32)] [(.ref a1), (.int b2)])
      refine Goes.step ?_ (fun _ k => XS.iloadN X0.here hx rfl (hb hby d11_68) rfl  k)
      show Goes p e below _ (sF s₁ m 69 #[rv a1, iv (4 : Int32), iv (3 : Int32), iv (1 : Int32)] [(.int (4 : Int32)), (.ref a1), (.int b2)])
      refine Goes.step ?_ (fun _ k => XS.iloadN X0.here hx rfl (hb hby d11_69) rfl  k)
      show Goes p e below _ (sF s₁ m 70 #[rv a1, iv (4 : Int32), iv (3 : Int32), iv (1 : Int32)] [(.int (3 : Int32)), (.int (4 : Int32)), (.ref a1), (.int b2)])
      refine Goes.step ?_ (fun _ k => XS.isub X0.here hx rfl (hb hby d11_70) rfl k)
      show Goes p e below _ (sF s₁ m 71 #[rv a1, iv (4 : Int32), iv (3 : Int32), iv (1 : Int32)] [(.int ((4 : Int32) - (3 : Int32))), (.ref a1), (.int b2)])
      rw [show ((4 : Int32) - (3 : Int32)) = (1 : Int32) from by decide]
      show Goes p e below _ (sF s₁ m 71 #[rv a1, iv (4 : Int32), iv (3 : Int32), iv (1 : Int32)] [(.int (1 : Int32)), (.ref a1), (.int b2)])
      refine Goes.step ?_ (fun _ k => XS.iconst X0.here hx rfl (hb hby d11_71) k)
      show Goes p e below _ (sF s₁ m 72 #[rv a1, iv (4 : Int32), iv (3 : Int32), iv (1 : Int32)] [(.int (2 : Int32)), (.int (1 : Int32)), (.ref a1), (.int b2)])
      refine Goes.step ?_ (fun _ k => XS.iadd X0.here hx rfl (hb hby d11_72) rfl k)
      show Goes p e below _ (sF s₁ m 73 #[rv a1, iv (4 : Int32), iv (3 : Int32), iv (1 : Int32)] [(.int ((1 : Int32) + (2 : Int32))), (.ref a1), (.int b2)])
      rw [show ((1 : Int32) + (2 : Int32)) = (3 : Int32) from by decide]
      show Goes p e below _ (sF s₁ m 73 #[rv a1, iv (4 : Int32), iv (3 : Int32), iv (1 : Int32)] [(.int (3 : Int32)), (.ref a1), (.int b2)])
      obtain ⟨cl13, Ar13, q13, S13, N_13, H13, G13⟩ := id V_a1
      have hin14 : ¬ ((3 : Int32) < 0 ∨ cl13.slots.size ≤ ((3 : Int32)).toNatClampNeg) := inb_of S13 hz3
      have hat14 : cl13.slots[((3 : Int32)).toNatClampNeg]? = some (.int b3) := H13.at hin14 hp3
      refine Goes.step ?_ (fun _ k => X0.baloadBytes hx (j := (3 : Int32)) (v := (.int b3)) (by rw [e0]; exact Ar13.1) (State.isArrayOf_alike hZ.alike Ar13.2.1) Ar13.2.2 hin14 hat14 (g := (mkF m 73 #[rv a1, iv (4 : Int32), iv (3 : Int32), iv (1 : Int32)] [(.int (3 : Int32)), (.ref a1), (.int b2)])) rfl rfl (hb hby d11_73) _ k)
      show Goes p e below _ (sF s₁ m 74 #[rv a1, iv (4 : Int32), iv (3 : Int32), iv (1 : Int32)] [(.int b3), (.int b2)])
      by_cases hc74_15 : b2 = b3
      · refine Goes.step ?_ (fun _ k => XS.icmpNo X0.here hx rfl (hb hby d11_74) rfl (teq hc74_15).2 k)
        show Goes p e below _ (sF s₁ m 77 #[rv a1, iv (4 : Int32), iv (3 : Int32), iv (1 : Int32)] [])
        refine Goes.step ?_ (fun _ k => XS.iconst X0.here hx rfl (hb hby d11_77) k)
        show Goes p e below _ (sF s₁ m 78 #[rv a1, iv (4 : Int32), iv (3 : Int32), iv (1 : Int32)] [(.int (1 : Int32))])
        refine Goes.step ?_ (fun _ k => XS.goto X0.here hx rfl (pc0 := 78) (pc' := 82) rfl (hb hby d11_78) (by decide) (by decide) k)
        show Goes p e below _ (sF s₁ m 82 #[rv a1, iv (4 : Int32), iv (3 : Int32), iv (1 : Int32)] [(.int (1 : Int32))])
        refine Goes.step ?_ (fun _ k => XS.istoreN X0.here hx rfl (hb hby d11_82) rfl (l' := #[rv a1, iv (4 : Int32), iv (3 : Int32), iv (1 : Int32)]) rfl k)
        show Goes p e below _ (sF s₁ m 83 #[rv a1, iv (4 : Int32), iv (3 : Int32), iv (1 : Int32)] [])
        refine Goes.step ?_ (fun _ k => XS.iloadN X0.here hx rfl (hb hby d11_83) rfl  k)
        show Goes p e below _ (sF s₁ m 84 #[rv a1, iv (4 : Int32), iv (3 : Int32), iv (1 : Int32)] [(.int (1 : Int32))])
        refine own_out X0 hx hlk hret rfl (Or.inl ⟨rfl, by simp, _, rfl⟩) (hb hby d11_84) ?_ (by decide) (by decide)
        show QInt r h0 n0 _ s₁.heap _
        rw [e0]
        exact ⟨by rw [← hr]; simp [hc18_5, hc46_10, hc74_15], N0, rfl⟩
      · refine Goes.step ?_ (fun _ k => XS.icmpYes X0.here hx rfl (pc0 := 74) (pc' := 81) rfl (hb hby d11_74) rfl (feq hc74_15).2 (by decide) (by decide) k)
        show Goes p e below _ (sF s₁ m 81 #[rv a1, iv (4 : Int32), iv (3 : Int32), iv (1 : Int32)] [])
        refine Goes.step ?_ (fun _ k => XS.iconst X0.here hx rfl (hb hby d11_81) k)
        show Goes p e below _ (sF s₁ m 82 #[rv a1, iv (4 : Int32), iv (3 : Int32), iv (1 : Int32)] [(.int (0 : Int32))])
        refine Goes.step ?_ (fun _ k => XS.istoreN X0.here hx rfl (hb hby d11_82) rfl (l' := #[rv a1, iv (4 : Int32), iv (3 : Int32), iv (0 : Int32)]) rfl k)
        show Goes p e below _ (sF s₁ m 83 #[rv a1, iv (4 : Int32), iv (3 : Int32), iv (0 : Int32)] [])
        refine Goes.step ?_ (fun _ k => XS.iloadN X0.here hx rfl (hb hby d11_83) rfl  k)
        show Goes p e below _ (sF s₁ m 84 #[rv a1, iv (4 : Int32), iv (3 : Int32), iv (0 : Int32)] [(.int (0 : Int32))])
        refine own_out X0 hx hlk hret rfl (Or.inl ⟨rfl, by simp, _, rfl⟩) (hb hby d11_84) ?_ (by decide) (by decide)
        show QInt r h0 n0 _ s₁.heap _
        rw [e0]
        exact ⟨by rw [← hr]; simp [hc18_5, hc46_10, hc74_15], N0, rfl⟩
    · refine Goes.step ?_ (fun _ k => XS.icmpYes X0.here hx rfl (pc0 := 46) (pc' := 53) rfl (hb hby d11_46) rfl (feq hc46_10).2 (by decide) (by decide) k)
      show Goes p e below _ (sF s₁ m 53 #[rv a1, iv (4 : Int32), iv (3 : Int32), iv (1 : Int32)] [])
      refine Goes.step ?_ (fun _ k => XS.iconst X0.here hx rfl (hb hby d11_53) k)
      show Goes p e below _ (sF s₁ m 54 #[rv a1, iv (4 : Int32), iv (3 : Int32), iv (1 : Int32)] [(.int (0 : Int32))])
      refine Goes.step ?_ (fun _ k => XS.istoreN X0.here hx rfl (hb hby d11_54) rfl (l' := #[rv a1, iv (4 : Int32), iv (3 : Int32), iv (0 : Int32)]) rfl k)
      show Goes p e below _ (sF s₁ m 55 #[rv a1, iv (4 : Int32), iv (3 : Int32), iv (0 : Int32)] [])
      refine Goes.step ?_ (fun _ k => XS.iloadN X0.here hx rfl (hb hby d11_55) rfl  k)
      show Goes p e below _ (sF s₁ m 56 #[rv a1, iv (4 : Int32), iv (3 : Int32), iv (0 : Int32)] [(.int (3 : Int32))])
      refine Goes.step ?_ (fun _ k => XS.iconst X0.here hx rfl (hb hby d11_56) k)
      show Goes p e below _ (sF s₁ m 57 #[rv a1, iv (4 : Int32), iv (3 : Int32), iv (0 : Int32)] [(.int (2 : Int32)), (.int (3 : Int32))])
      refine Goes.step ?_ (fun _ k => XS.icmpNo X0.here hx rfl (hb hby d11_57) rfl (tlt (by decide : (2 : Int32) < (3 : Int32))).2.2.2 k)
      show Goes p e below _ (sF s₁ m 60 #[rv a1, iv (4 : Int32), iv (3 : Int32), iv (0 : Int32)] [])
      refine Goes.step ?_ (fun _ k => XS.iloadN X0.here hx rfl (hb hby d11_60) rfl  k)
      show Goes p e below _ (sF s₁ m 61 #[rv a1, iv (4 : Int32), iv (3 : Int32), iv (0 : Int32)] [(.int (0 : Int32))])
      refine Goes.step ?_ (fun _ k => XS.ifYes X0.here hx rfl (pc0 := 61) (pc' := 81) rfl (hb hby d11_61) rfl ((if0 _ _).trans (teq (by decide : (0 : Int32) = (0 : Int32))).1) (by decide) (by decide) k)
      show Goes p e below _ (sF s₁ m 81 #[rv a1, iv (4 : Int32), iv (3 : Int32), iv (0 : Int32)] [])
      refine Goes.step ?_ (fun _ k => XS.iconst X0.here hx rfl (hb hby d11_81) k)
      show Goes p e below _ (sF s₁ m 82 #[rv a1, iv (4 : Int32), iv (3 : Int32), iv (0 : Int32)] [(.int (0 : Int32))])
      refine Goes.step ?_ (fun _ k => XS.istoreN X0.here hx rfl (hb hby d11_82) rfl (l' := #[rv a1, iv (4 : Int32), iv (3 : Int32), iv (0 : Int32)]) rfl k)
      show Goes p e below _ (sF s₁ m 83 #[rv a1, iv (4 : Int32), iv (3 : Int32), iv (0 : Int32)] [])
      refine Goes.step ?_ (fun _ k => XS.iloadN X0.here hx rfl (hb hby d11_83) rfl  k)
      show Goes p e below _ (sF s₁ m 84 #[rv a1, iv (4 : Int32), iv (3 : Int32), iv (0 : Int32)] [(.int (0 : Int32))])
      refine own_out X0 hx hlk hret rfl (Or.inl ⟨rfl, by simp, _, rfl⟩) (hb hby d11_84) ?_ (by decide) (by decide)
      show QInt r h0 n0 _ s₁.heap _
      rw [e0]
      exact ⟨by rw [← hr]; simp [hc18_5, hc46_10], N0, rfl⟩
  · refine Goes.step ?_ (fun _ k => XS.icmpYes X0.here hx rfl (pc0 := 18) (pc' := 25) rfl (hb hby d11_18) rfl (feq hc18_5).2 (by decide) (by decide) k)
    show Goes p e below _ (sF s₁ m 25 #[rv a1, iv (4 : Int32), iv (3 : Int32), iv (1 : Int32)] [])
    refine Goes.step ?_ (fun _ k => XS.iconst X0.here hx rfl (hb hby d11_25) k)
    show Goes p e below _ (sF s₁ m 26 #[rv a1, iv (4 : Int32), iv (3 : Int32), iv (1 : Int32)] [(.int (0 : Int32))])
    refine Goes.step ?_ (fun _ k => XS.istoreN X0.here hx rfl (hb hby d11_26) rfl (l' := #[rv a1, iv (4 : Int32), iv (3 : Int32), iv (0 : Int32)]) rfl k)
    show Goes p e below _ (sF s₁ m 27 #[rv a1, iv (4 : Int32), iv (3 : Int32), iv (0 : Int32)] [])
    refine Goes.step ?_ (fun _ k => XS.iloadN X0.here hx rfl (hb hby d11_27) rfl  k)
    show Goes p e below _ (sF s₁ m 28 #[rv a1, iv (4 : Int32), iv (3 : Int32), iv (0 : Int32)] [(.int (3 : Int32))])
    refine Goes.step ?_ (fun _ k => XS.iconst X0.here hx rfl (hb hby d11_28) k)
    show Goes p e below _ (sF s₁ m 29 #[rv a1, iv (4 : Int32), iv (3 : Int32), iv (0 : Int32)] [(.int (1 : Int32)), (.int (3 : Int32))])
    refine Goes.step ?_ (fun _ k => XS.icmpNo X0.here hx rfl (hb hby d11_29) rfl (tlt (by decide : (1 : Int32) < (3 : Int32))).2.2.2 k)
    show Goes p e below _ (sF s₁ m 32 #[rv a1, iv (4 : Int32), iv (3 : Int32), iv (0 : Int32)] [])
    refine Goes.step ?_ (fun _ k => XS.iloadN X0.here hx rfl (hb hby d11_32) rfl  k)
    show Goes p e below _ (sF s₁ m 33 #[rv a1, iv (4 : Int32), iv (3 : Int32), iv (0 : Int32)] [(.int (0 : Int32))])
    refine Goes.step ?_ (fun _ k => XS.ifYes X0.here hx rfl (pc0 := 33) (pc' := 53) rfl (hb hby d11_33) rfl ((if0 _ _).trans (teq (by decide : (0 : Int32) = (0 : Int32))).1) (by decide) (by decide) k)
    show Goes p e below _ (sF s₁ m 53 #[rv a1, iv (4 : Int32), iv (3 : Int32), iv (0 : Int32)] [])
    refine Goes.step ?_ (fun _ k => XS.iconst X0.here hx rfl (hb hby d11_53) k)
    show Goes p e below _ (sF s₁ m 54 #[rv a1, iv (4 : Int32), iv (3 : Int32), iv (0 : Int32)] [(.int (0 : Int32))])
    refine Goes.step ?_ (fun _ k => XS.istoreN X0.here hx rfl (hb hby d11_54) rfl (l' := #[rv a1, iv (4 : Int32), iv (3 : Int32), iv (0 : Int32)]) rfl k)
    show Goes p e below _ (sF s₁ m 55 #[rv a1, iv (4 : Int32), iv (3 : Int32), iv (0 : Int32)] [])
    refine Goes.step ?_ (fun _ k => XS.iloadN X0.here hx rfl (hb hby d11_55) rfl  k)
    show Goes p e below _ (sF s₁ m 56 #[rv a1, iv (4 : Int32), iv (3 : Int32), iv (0 : Int32)] [(.int (3 : Int32))])
    refine Goes.step ?_ (fun _ k => XS.iconst X0.here hx rfl (hb hby d11_56) k)
    show Goes p e below _ (sF s₁ m 57 #[rv a1, iv (4 : Int32), iv (3 : Int32), iv (0 : Int32)] [(.int (2 : Int32)), (.int (3 : Int32))])
    refine Goes.step ?_ (fun _ k => XS.icmpNo X0.here hx rfl (hb hby d11_57) rfl (tlt (by decide : (2 : Int32) < (3 : Int32))).2.2.2 k)
    show Goes p e below _ (sF s₁ m 60 #[rv a1, iv (4 : Int32), iv (3 : Int32), iv (0 : Int32)] [])
    refine Goes.step ?_ (fun _ k => XS.iloadN X0.here hx rfl (hb hby d11_60) rfl  k)
    show Goes p e below _ (sF s₁ m 61 #[rv a1, iv (4 : Int32), iv (3 : Int32), iv (0 : Int32)] [(.int (0 : Int32))])
    refine Goes.step ?_ (fun _ k => XS.ifYes X0.here hx rfl (pc0 := 61) (pc' := 81) rfl (hb hby d11_61) rfl ((if0 _ _).trans (teq (by decide : (0 : Int32) = (0 : Int32))).1) (by decide) (by decide) k)
    show Goes p e below _ (sF s₁ m 81 #[rv a1, iv (4 : Int32), iv (3 : Int32), iv (0 : Int32)] [])
    refine Goes.step ?_ (fun _ k => XS.iconst X0.here hx rfl (hb hby d11_81) k)
    show Goes p e below _ (sF s₁ m 82 #[rv a1, iv (4 : Int32), iv (3 : Int32), iv (0 : Int32)] [(.int (0 : Int32))])
    refine Goes.step ?_ (fun _ k => XS.istoreN X0.here hx rfl (hb hby d11_82) rfl (l' := #[rv a1, iv (4 : Int32), iv (3 : Int32), iv (0 : Int32)]) rfl k)
    show Goes p e below _ (sF s₁ m 83 #[rv a1, iv (4 : Int32), iv (3 : Int32), iv (0 : Int32)] [])
    refine Goes.step ?_ (fun _ k => XS.iloadN X0.here hx rfl (hb hby d11_83) rfl  k)
    show Goes p e below _ (sF s₁ m 84 #[rv a1, iv (4 : Int32), iv (3 : Int32), iv (0 : Int32)] [(.int (0 : Int32))])
    refine own_out X0 hx hlk hret rfl (Or.inl ⟨rfl, by simp, _, rfl⟩) (hb hby d11_84) ?_ (by decide) (by decide)
    show QInt r h0 n0 _ s₁.heap _
    rw [e0]
    exact ⟨by rw [← hr]; simp [hc18_5], N0, rfl⟩
theorem ef_bor4_2 (m : MethodId) (x0 : Addr) (x1 : Int32) (x2 : Int32) : entryFrame m #[(.ref x0), (.int x1), (.int x2)] 4 = mkF m 0 #[rv x0, iv x1, iv x2, .unset] [] := by first | (simp [entryFrame, mkF, argsToLocals, Value.category]; done) | rfl
set_option maxRecDepth 65536 in
set_option maxHeartbeats 40000000 in
theorem rmBor4_2 (l : Launch) (Z : State) (a0 : Array Value) (hw : ∀ d ∈ tables_1, d.before a0 Z = true) (ws : List Jvm.Cond) (a1 : Addr) (ka : ClassId) (z : Int32) (pl : List Value) (b0 : Int32) (b1 : Int32) (b2 : Int32) (b3 : Int32) (r : Int32) (h0 : Heap) (n0 : Nat) (Z0 : n0 ≤ h0.size) (V_a1 : Arv Z h0 a1 ka .byte z pl (.int (0 : Int32))) (hz0 : ¬ (0 : Int32) < 0 ∧ (0 : Int32) < z) (hz1 : ¬ (1 : Int32) < 0 ∧ (1 : Int32) < z) (hz2 : ¬ (2 : Int32) < 0 ∧ (2 : Int32) < z) (hz3 : ¬ (3 : Int32) < 0 ∧ (3 : Int32) < z) (hp0 : pl.getD ((0 : Int32)).toNatClampNeg (.int (0 : Int32)) = .int b0) (hp1 : pl.getD ((1 : Int32)).toNatClampNeg (.int (0 : Int32)) = .int b1) (hp2 : pl.getD ((2 : Int32)).toNatClampNeg (.int (0 : Int32)) = .int b2) (hp3 : pl.getD ((3 : Int32)).toNatClampNeg (.int (0 : Int32)) = .int b3) (hr : (if b0 = b2 ∧ b1 = b3 then (1 : Int32) else 0) = r) :
    MetFree l (⟨"com/example/borderline/borderline/BorderTableShiftedPinLaw", "border", "([BII)Z"⟩ : MethodName) (head1 (Jvm.Cond.code (⟨"com/example/borderline/borderline/BorderTableShiftedPinLaw", "border", "([BII)Z"⟩ : MethodName) method_2_code 4 (some .boolean) :: ws) ({ frames := 0, cells := 0, slots := 0, locals := 0 } : Room)) (fun a U => a = #[(.ref a1), (.int (4 : Int32)), (.int (2 : Int32))] ∧ Z.Warmed39 U.vm ∧ U.heap = h0) (fun _ _ _ _ _ => True) (fun _ U o U' => ∃ v L, o = .returned v ∧ QInt r h0 n0 v U'.heap L ∧ FrameEnd U o U' L ({ frames := 0, cells := 0, slots := 0, locals := 0 } : Room).cells ({ frames := 0, cells := 0, slots := 0, locals := 0 } : Room).slots) := by
  refine MetFree.of_bodySF (plainFor_of_name pn_com_example_borderline_borderline_BorderTableShiftedPinLaw) hisR ?_
  intro p e s m args below meth c s₁ Bd hml0 hP hK
  obtain ⟨rfl, hZ, hh⟩ := hP
  have hx := Bd.exec
  have hby := Bd.bytes
  have hlk : meth.locks = false := BodyLoose.notSynchronized Bd
  have hml : c.maxLocals = 4 := hml0
  have hown : s.vm.findClass "com/example/borderline/borderline/BorderTableShiftedPinLaw" = some m.cls := findClass_of_methodNamed Bd.named
  have hnm := (name_of_methodNamed Bd.named Bd.method).1
  have X0 : Stand p l e ({ frames := 0, cells := 0, slots := 0, locals := 0 } : Room) s m #[(.ref a1), (.int (4 : Int32)), (.int (2 : Int32))] below meth c s₁ [] 0 0 := Stand.of_body Bd
  have e0 : s₁.heap = h0 := by rw [← hh, Bd.state]; rfl
  have N0 := Fr.nil n0
  have hret := Bd.returns
  show Goes p e below (fun o U' => ∃ v L, o = .returned v ∧ QInt r h0 n0 v U'.heap L ∧ FrameEnd s o U' L ({ frames := 0, cells := 0, slots := 0, locals := 0 } : Room).cells ({ frames := 0, cells := 0, slots := 0, locals := 0 } : Room).slots) (s₁.setTop (entryFrame m #[(.ref a1), (.int (4 : Int32)), (.int (2 : Int32))] 4))
  refine Goes.step ?_ (fun _ k => castTop (ef_bor4_2 m a1 (4 : Int32) (2 : Int32)) k)
  show Goes p e below _ (sF s₁ m 0 #[rv a1, iv (4 : Int32), iv (2 : Int32), .unset] [])
  refine Goes.step ?_ (fun _ k => XS.iconst X0.here hx rfl (hb hby d11_0) k)
  show Goes p e below _ (sF s₁ m 1 #[rv a1, iv (4 : Int32), iv (2 : Int32), .unset] [(.int (1 : Int32))])
  refine Goes.step ?_ (fun _ k => XS.istoreN X0.here hx rfl (hb hby d11_1) rfl (l' := #[rv a1, iv (4 : Int32), iv (2 : Int32), iv (1 : Int32)]) rfl k)
  show Goes p e below _ (sF s₁ m 2 #[rv a1, iv (4 : Int32), iv (2 : Int32), iv (1 : Int32)] [])
  refine Goes.step ?_ (fun _ k => XS.iloadN X0.here hx rfl (hb hby d11_2) rfl  k)
  show Goes p e below _ (sF s₁ m 3 #[rv a1, iv (4 : Int32), iv (2 : Int32), iv (1 : Int32)] [(.int (2 : Int32))])
  refine Goes.step ?_ (fun _ k => XS.ifNo X0.here hx rfl (hb hby d11_3) rfl ((if0 _ _).trans (tlt (by decide : (0 : Int32) < (2 : Int32))).2.2.2) k)
  show Goes p e below _ (sF s₁ m 6 #[rv a1, iv (4 : Int32), iv (2 : Int32), iv (1 : Int32)] [])
  refine Goes.step ?_ (fun _ k => XS.iloadN X0.here hx rfl (hb hby d11_6) rfl  k)
  show Goes p e below _ (sF s₁ m 7 #[rv a1, iv (4 : Int32), iv (2 : Int32), iv (1 : Int32)] [(.int (1 : Int32))])
  refine Goes.step ?_ (fun _ k => XS.ifNo X0.here hx rfl (hb hby d11_7) rfl ((if0 _ _).trans (feq (by decide : ¬ ((1 : Int32) = (0 : Int32)))).1) k)
  show Goes p e below _ (sF s₁ m 10 #[rv a1, iv (4 : Int32), iv (2 : Int32), iv (1 : Int32)] [])
  refine Goes.step ?_ (fun _ k => XS.aloadN X0.here hx rfl (hb hby d11_10) rfl rfl k)
  show Goes p e below _ (sF s₁ m 11 #[rv a1, iv (4 : Int32), iv (2 : Int32), iv (1 : Int32)] [(.ref a1)])
  refine Goes.step ?_ (fun _ k => XS.iconst X0.here hx rfl (hb hby d11_11) k)
  show Goes p e below _ (sF s₁ m 12 #[rv a1, iv (4 : Int32), iv (2 : Int32), iv (1 : Int32)] [(.int (0 : Int32)), (.ref a1)])
  obtain ⟨cl1, Ar1, q1, S1, N_1, H1, G1⟩ := id V_a1
  have hin2 : ¬ ((0 : Int32) < 0 ∨ cl1.slots.size ≤ ((0 : Int32)).toNatClampNeg) := inb_of S1 hz0
  have hat2 : cl1.slots[((0 : Int32)).toNatClampNeg]? = some (.int b0) := H1.at hin2 hp0
  refine Goes.step ?_ (fun _ k => X0.baloadBytes hx (j := (0 : Int32)) (v := (.int b0)) (by rw [e0]; exact Ar1.1) (State.isArrayOf_alike hZ.alike Ar1.2.1) Ar1.2.2 hin2 hat2 (g := (mkF m 12 #[rv a1, iv (4 : Int32), iv (2 : Int32), iv (1 : Int32)] [(.int (0 : Int32)), (.ref a1)])) rfl rfl (hb hby d11_12) _ k)
  show Goes p e below _ (sF s₁ m 13 #[rv a1, iv (4 : Int32), iv (2 : Int32), iv (1 : Int32)] [(.int b0)])
  refine Goes.step ?_ (fun _ k => XS.aloadN X0.here hx rfl (hb hby d11_13) rfl rfl k)
  show Goes p e below _ (sF s₁ m 14 #[rv a1, iv (4 : Int32), iv (2 : Int32), iv (1 : Int32)] [(.ref a1), (.int b0)])
  refine Goes.step ?_ (fun _ k => XS.iloadN X0.here hx rfl (hb hby d11_14) rfl  k)
  show Goes p e below _ (sF s₁ m 15 #[rv a1, iv (4 : Int32), iv (2 : Int32), iv (1 : Int32)] [(.int (4 : Int32)), (.ref a1), (.int b0)])
  refine Goes.step ?_ (fun _ k => XS.iloadN X0.here hx rfl (hb hby d11_15) rfl  k)
  show Goes p e below _ (sF s₁ m 16 #[rv a1, iv (4 : Int32), iv (2 : Int32), iv (1 : Int32)] [(.int (2 : Int32)), (.int (4 : Int32)), (.ref a1), (.int b0)])
  refine Goes.step ?_ (fun _ k => XS.isub X0.here hx rfl (hb hby d11_16) rfl k)
  show Goes p e below _ (sF s₁ m 17 #[rv a1, iv (4 : Int32), iv (2 : Int32), iv (1 : Int32)] [(.int ((4 : Int32) - (2 : Int32))), (.ref a1), (.int b0)])
  rw [show ((4 : Int32) - (2 : Int32)) = (2 : Int32) from by decide]
  show Goes p e below _ (sF s₁ m 17 #[rv a1, iv (4 : Int32), iv (2 : Int32), iv (1 : Int32)] [(.int (2 : Int32)), (.ref a1), (.int b0)])
  obtain ⟨cl3, Ar3, q3, S3, N_3, H3, G3⟩ := id V_a1
  have hin4 : ¬ ((2 : Int32) < 0 ∨ cl3.slots.size ≤ ((2 : Int32)).toNatClampNeg) := inb_of S3 hz2
  have hat4 : cl3.slots[((2 : Int32)).toNatClampNeg]? = some (.int b2) := H3.at hin4 hp2
  refine Goes.step ?_ (fun _ k => X0.baloadBytes hx (j := (2 : Int32)) (v := (.int b2)) (by rw [e0]; exact Ar3.1) (State.isArrayOf_alike hZ.alike Ar3.2.1) Ar3.2.2 hin4 hat4 (g := (mkF m 17 #[rv a1, iv (4 : Int32), iv (2 : Int32), iv (1 : Int32)] [(.int (2 : Int32)), (.ref a1), (.int b0)])) rfl rfl (hb hby d11_17) _ k)
  show Goes p e below _ (sF s₁ m 18 #[rv a1, iv (4 : Int32), iv (2 : Int32), iv (1 : Int32)] [(.int b2), (.int b0)])
  by_cases hc18_5 : b0 = b2
  · refine Goes.step ?_ (fun _ k => XS.icmpNo X0.here hx rfl (hb hby d11_18) rfl (teq hc18_5).2 k)
    show Goes p e below _ (sF s₁ m 21 #[rv a1, iv (4 : Int32), iv (2 : Int32), iv (1 : Int32)] [])
    refine Goes.step ?_ (fun _ k => XS.iconst X0.here hx rfl (hb hby d11_21) k)
    show Goes p e below _ (sF s₁ m 22 #[rv a1, iv (4 : Int32), iv (2 : Int32), iv (1 : Int32)] [(.int (1 : Int32))])
    refine Goes.step ?_ (fun _ k => XS.goto X0.here hx rfl (pc0 := 22) (pc' := 26) rfl (hb hby d11_22) (by decide) (by decide) k)
    show Goes p e below _ (sF s₁ m 26 #[rv a1, iv (4 : Int32), iv (2 : Int32), iv (1 : Int32)] [(.int (1 : Int32))])
    refine Goes.step ?_ (fun _ k => XS.istoreN X0.here hx rfl (hb hby d11_26) rfl (l' := #[rv a1, iv (4 : Int32), iv (2 : Int32), iv (1 : Int32)]) rfl k)
    show Goes p e below _ (sF s₁ m 27 #[rv a1, iv (4 : Int32), iv (2 : Int32), iv (1 : Int32)] [])
    refine Goes.step ?_ (fun _ k => XS.iloadN X0.here hx rfl (hb hby d11_27) rfl  k)
    show Goes p e below _ (sF s₁ m 28 #[rv a1, iv (4 : Int32), iv (2 : Int32), iv (1 : Int32)] [(.int (2 : Int32))])
    refine Goes.step ?_ (fun _ k => XS.iconst X0.here hx rfl (hb hby d11_28) k)
    show Goes p e below _ (sF s₁ m 29 #[rv a1, iv (4 : Int32), iv (2 : Int32), iv (1 : Int32)] [(.int (1 : Int32)), (.int (2 : Int32))])
    refine Goes.step ?_ (fun _ k => XS.icmpNo X0.here hx rfl (hb hby d11_29) rfl (tlt (by decide : (1 : Int32) < (2 : Int32))).2.2.2 k)
    show Goes p e below _ (sF s₁ m 32 #[rv a1, iv (4 : Int32), iv (2 : Int32), iv (1 : Int32)] [])
    refine Goes.step ?_ (fun _ k => XS.iloadN X0.here hx rfl (hb hby d11_32) rfl  k)
    show Goes p e below _ (sF s₁ m 33 #[rv a1, iv (4 : Int32), iv (2 : Int32), iv (1 : Int32)] [(.int (1 : Int32))])
    refine Goes.step ?_ (fun _ k => XS.ifNo X0.here hx rfl (hb hby d11_33) rfl ((if0 _ _).trans (feq (by decide : ¬ ((1 : Int32) = (0 : Int32)))).1) k)
    show Goes p e below _ (sF s₁ m 36 #[rv a1, iv (4 : Int32), iv (2 : Int32), iv (1 : Int32)] [])
    refine Goes.step ?_ (fun _ k => XS.aloadN X0.here hx rfl (hb hby d11_36) rfl rfl k)
    show Goes p e below _ (sF s₁ m 37 #[rv a1, iv (4 : Int32), iv (2 : Int32), iv (1 : Int32)] [(.ref a1)])
    refine Goes.step ?_ (fun _ k => XS.iconst X0.here hx rfl (hb hby d11_37) k)
    show Goes p e below _ (sF s₁ m 38 #[rv a1, iv (4 : Int32), iv (2 : Int32), iv (1 : Int32)] [(.int (1 : Int32)), (.ref a1)])
    obtain ⟨cl6, Ar6, q6, S6, N_6, H6, G6⟩ := id V_a1
    have hin7 : ¬ ((1 : Int32) < 0 ∨ cl6.slots.size ≤ ((1 : Int32)).toNatClampNeg) := inb_of S6 hz1
    have hat7 : cl6.slots[((1 : Int32)).toNatClampNeg]? = some (.int b1) := H6.at hin7 hp1
    refine Goes.step ?_ (fun _ k => X0.baloadBytes hx (j := (1 : Int32)) (v := (.int b1)) (by rw [e0]; exact Ar6.1) (State.isArrayOf_alike hZ.alike Ar6.2.1) Ar6.2.2 hin7 hat7 (g := (mkF m 38 #[rv a1, iv (4 : Int32), iv (2 : Int32), iv (1 : Int32)] [(.int (1 : Int32)), (.ref a1)])) rfl rfl (hb hby d11_38) _ k)
    show Goes p e below _ (sF s₁ m 39 #[rv a1, iv (4 : Int32), iv (2 : Int32), iv (1 : Int32)] [(.int b1)])
    refine Goes.step ?_ (fun _ k => XS.aloadN X0.here hx rfl (hb hby d11_39) rfl rfl k)
    show Goes p e below _ (sF s₁ m 40 #[rv a1, iv (4 : Int32), iv (2 : Int32), iv (1 : Int32)] [(.ref a1), (.int b1)])
    refine Goes.step ?_ (fun _ k => XS.iloadN X0.here hx rfl (hb hby d11_40) rfl  k)
    show Goes p e below _ (sF s₁ m 41 #[rv a1, iv (4 : Int32), iv (2 : Int32), iv (1 : Int32)] [(.int (4 : Int32)), (.ref a1), (.int b1)])
    refine Goes.step ?_ (fun _ k => XS.iloadN X0.here hx rfl (hb hby d11_41) rfl  k)
    show Goes p e below _ (sF s₁ m 42 #[rv a1, iv (4 : Int32), iv (2 : Int32), iv (1 : Int32)] [(.int (2 : Int32)), (.int (4 : Int32)), (.ref a1), (.int b1)])
    refine Goes.step ?_ (fun _ k => XS.isub X0.here hx rfl (hb hby d11_42) rfl k)
    show Goes p e below _ (sF s₁ m 43 #[rv a1, iv (4 : Int32), iv (2 : Int32), iv (1 : Int32)] [(.int ((4 : Int32) - (2 : Int32))), (.ref a1), (.int b1)])
    rw [show ((4 : Int32) - (2 : Int32)) = (2 : Int32) from by decide]
    show Goes p e below _ (sF s₁ m 43 #[rv a1, iv (4 : Int32), iv (2 : Int32), iv (1 : Int32)] [(.int (2 : Int32)), (.ref a1), (.int b1)])
    refine Goes.step ?_ (fun _ k => XS.iconst X0.here hx rfl (hb hby d11_43) k)
    show Goes p e below _ (sF s₁ m 44 #[rv a1, iv (4 : Int32), iv (2 : Int32), iv (1 : Int32)] [(.int (1 : Int32)), (.int (2 : Int32)), (.ref a1), (.int b1)])
    refine Goes.step ?_ (fun _ k => XS.iadd X0.here hx rfl (hb hby d11_44) rfl k)
    show Goes p e below _ (sF s₁ m 45 #[rv a1, iv (4 : Int32), iv (2 : Int32), iv (1 : Int32)] [(.int ((2 : Int32) + (1 : Int32))), (.ref a1), (.int b1)])
    rw [show ((2 : Int32) + (1 : Int32)) = (3 : Int32) from by decide]
    show Goes p e below _ (sF s₁ m 45 #[rv a1, iv (4 : Int32), iv (2 : Int32), iv (1 : Int32)] [(.int (3 : Int32)), (.ref a1), (.int b1)])
    obtain ⟨cl8, Ar8, q8, S8, N_8, H8, G8⟩ := id V_a1
    have hin9 : ¬ ((3 : Int32) < 0 ∨ cl8.slots.size ≤ ((3 : Int32)).toNatClampNeg) := inb_of S8 hz3
    have hat9 : cl8.slots[((3 : Int32)).toNatClampNeg]? = some (.int b3) := H8.at hin9 hp3
    refine Goes.step ?_ (fun _ k => X0.baloadBytes hx (j := (3 : Int32)) (v := (.int b3)) (by rw [e0]; exact Ar8.1) (State.isArrayOf_alike hZ.alike Ar8.2.1) Ar8.2.2 hin9 hat9 (g := (mkF m 45 #[rv a1, iv (4 : Int32), iv (2 : Int32), iv (1 : Int32)] [(.int (3 : Int32)), (.ref a1), (.int b1)])) rfl rfl (hb hby d11_45) _ k)
    show Goes p e below _ (sF s₁ m 46 #[rv a1, iv (4 : Int32), iv (2 : Int32), iv (1 : Int32)] [(.int b3), (.int b1)])
    by_cases hc46_10 : b1 = b3
    · refine Goes.step ?_ (fun _ k => XS.icmpNo X0.here hx rfl (hb hby d11_46) rfl (teq hc46_10).2 k)
      show Goes p e below _ (sF s₁ m 49 #[rv a1, iv (4 : Int32), iv (2 : Int32), iv (1 : Int32)] [])
      refine Goes.step ?_ (fun _ k => XS.iconst X0.here hx rfl (hb hby d11_49) k)
      show Goes p e below _ (sF s₁ m 50 #[rv a1, iv (4 : Int32), iv (2 : Int32), iv (1 : Int32)] [(.int (1 : Int32))])
      refine Goes.step ?_ (fun _ k => XS.goto X0.here hx rfl (pc0 := 50) (pc' := 54) rfl (hb hby d11_50) (by decide) (by decide) k)
      show Goes p e below _ (sF s₁ m 54 #[rv a1, iv (4 : Int32), iv (2 : Int32), iv (1 : Int32)] [(.int (1 : Int32))])
      refine Goes.step ?_ (fun _ k => XS.istoreN X0.here hx rfl (hb hby d11_54) rfl (l' := #[rv a1, iv (4 : Int32), iv (2 : Int32), iv (1 : Int32)]) rfl k)
      show Goes p e below _ (sF s₁ m 55 #[rv a1, iv (4 : Int32), iv (2 : Int32), iv (1 : Int32)] [])
      refine Goes.step ?_ (fun _ k => XS.iloadN X0.here hx rfl (hb hby d11_55) rfl  k)
      show Goes p e below _ (sF s₁ m 56 #[rv a1, iv (4 : Int32), iv (2 : Int32), iv (1 : Int32)] [(.int (2 : Int32))])
      refine Goes.step ?_ (fun _ k => XS.iconst X0.here hx rfl (hb hby d11_56) k)
      show Goes p e below _ (sF s₁ m 57 #[rv a1, iv (4 : Int32), iv (2 : Int32), iv (1 : Int32)] [(.int (2 : Int32)), (.int (2 : Int32))])
      refine Goes.step ?_ (fun _ k => XS.icmpYes X0.here hx rfl (pc0 := 57) (pc' := 83) rfl (hb hby d11_57) rfl (flt (by decide : ¬ ((2 : Int32) < (2 : Int32)))).2.2.2 (by decide) (by decide) k)
      show Goes p e below _ (sF s₁ m 83 #[rv a1, iv (4 : Int32), iv (2 : Int32), iv (1 : Int32)] [])
      refine Goes.step ?_ (fun _ k => XS.iloadN X0.here hx rfl (hb hby d11_83) rfl  k)
      show Goes p e below _ (sF s₁ m 84 #[rv a1, iv (4 : Int32), iv (2 : Int32), iv (1 : Int32)] [(.int (1 : Int32))])
      refine own_out X0 hx hlk hret rfl (Or.inl ⟨rfl, by simp, _, rfl⟩) (hb hby d11_84) ?_ (by decide) (by decide)
      show QInt r h0 n0 _ s₁.heap _
      rw [e0]
      exact ⟨by rw [← hr]; simp [hc18_5, hc46_10], N0, rfl⟩
    · refine Goes.step ?_ (fun _ k => XS.icmpYes X0.here hx rfl (pc0 := 46) (pc' := 53) rfl (hb hby d11_46) rfl (feq hc46_10).2 (by decide) (by decide) k)
      show Goes p e below _ (sF s₁ m 53 #[rv a1, iv (4 : Int32), iv (2 : Int32), iv (1 : Int32)] [])
      refine Goes.step ?_ (fun _ k => XS.iconst X0.here hx rfl (hb hby d11_53) k)
      show Goes p e below _ (sF s₁ m 54 #[rv a1, iv (4 : Int32), iv (2 : Int32), iv (1 : Int32)] [(.int (0 : Int32))])
      refine Goes.step ?_ (fun _ k => XS.istoreN X0.here hx rfl (hb hby d11_54) rfl (l' := #[rv a1, iv (4 : Int32), iv (2 : Int32), iv (0 : Int32)]) rfl k)
      show Goes p e below _ (sF s₁ m 55 #[rv a1, iv (4 : Int32), iv (2 : Int32), iv (0 : Int32)] [])
      refine Goes.step ?_ (fun _ k => XS.iloadN X0.here hx rfl (hb hby d11_55) rfl  k)
      show Goes p e below _ (sF s₁ m 56 #[rv a1, iv (4 : Int32), iv (2 : Int32), iv (0 : Int32)] [(.int (2 : Int32))])
      refine Goes.step ?_ (fun _ k => XS.iconst X0.here hx rfl (hb hby d11_56) k)
      show Goes p e below _ (sF s₁ m 57 #[rv a1, iv (4 : Int32), iv (2 : Int32), iv (0 : Int32)] [(.int (2 : Int32)), (.int (2 : Int32))])
      refine Goes.step ?_ (fun _ k => XS.icmpYes X0.here hx rfl (pc0 := 57) (pc' := 83) rfl (hb hby d11_57) rfl (flt (by decide : ¬ ((2 : Int32) < (2 : Int32)))).2.2.2 (by decide) (by decide) k)
      show Goes p e below _ (sF s₁ m 83 #[rv a1, iv (4 : Int32), iv (2 : Int32), iv (0 : Int32)] [])
      refine Goes.step ?_ (fun _ k => XS.iloadN X0.here hx rfl (hb hby d11_83) rfl  k)
      show Goes p e below _ (sF s₁ m 84 #[rv a1, iv (4 : Int32), iv (2 : Int32), iv (0 : Int32)] [(.int (0 : Int32))])
      refine own_out X0 hx hlk hret rfl (Or.inl ⟨rfl, by simp, _, rfl⟩) (hb hby d11_84) ?_ (by decide) (by decide)
      show QInt r h0 n0 _ s₁.heap _
      rw [e0]
      exact ⟨by rw [← hr]; simp [hc18_5, hc46_10], N0, rfl⟩
  · refine Goes.step ?_ (fun _ k => XS.icmpYes X0.here hx rfl (pc0 := 18) (pc' := 25) rfl (hb hby d11_18) rfl (feq hc18_5).2 (by decide) (by decide) k)
    show Goes p e below _ (sF s₁ m 25 #[rv a1, iv (4 : Int32), iv (2 : Int32), iv (1 : Int32)] [])
    refine Goes.step ?_ (fun _ k => XS.iconst X0.here hx rfl (hb hby d11_25) k)
    show Goes p e below _ (sF s₁ m 26 #[rv a1, iv (4 : Int32), iv (2 : Int32), iv (1 : Int32)] [(.int (0 : Int32))])
    refine Goes.step ?_ (fun _ k => XS.istoreN X0.here hx rfl (hb hby d11_26) rfl (l' := #[rv a1, iv (4 : Int32), iv (2 : Int32), iv (0 : Int32)]) rfl k)
    show Goes p e below _ (sF s₁ m 27 #[rv a1, iv (4 : Int32), iv (2 : Int32), iv (0 : Int32)] [])
    refine Goes.step ?_ (fun _ k => XS.iloadN X0.here hx rfl (hb hby d11_27) rfl  k)
    show Goes p e below _ (sF s₁ m 28 #[rv a1, iv (4 : Int32), iv (2 : Int32), iv (0 : Int32)] [(.int (2 : Int32))])
    refine Goes.step ?_ (fun _ k => XS.iconst X0.here hx rfl (hb hby d11_28) k)
    show Goes p e below _ (sF s₁ m 29 #[rv a1, iv (4 : Int32), iv (2 : Int32), iv (0 : Int32)] [(.int (1 : Int32)), (.int (2 : Int32))])
    refine Goes.step ?_ (fun _ k => XS.icmpNo X0.here hx rfl (hb hby d11_29) rfl (tlt (by decide : (1 : Int32) < (2 : Int32))).2.2.2 k)
    show Goes p e below _ (sF s₁ m 32 #[rv a1, iv (4 : Int32), iv (2 : Int32), iv (0 : Int32)] [])
    refine Goes.step ?_ (fun _ k => XS.iloadN X0.here hx rfl (hb hby d11_32) rfl  k)
    show Goes p e below _ (sF s₁ m 33 #[rv a1, iv (4 : Int32), iv (2 : Int32), iv (0 : Int32)] [(.int (0 : Int32))])
    refine Goes.step ?_ (fun _ k => XS.ifYes X0.here hx rfl (pc0 := 33) (pc' := 53) rfl (hb hby d11_33) rfl ((if0 _ _).trans (teq (by decide : (0 : Int32) = (0 : Int32))).1) (by decide) (by decide) k)
    show Goes p e below _ (sF s₁ m 53 #[rv a1, iv (4 : Int32), iv (2 : Int32), iv (0 : Int32)] [])
    refine Goes.step ?_ (fun _ k => XS.iconst X0.here hx rfl (hb hby d11_53) k)
    show Goes p e below _ (sF s₁ m 54 #[rv a1, iv (4 : Int32), iv (2 : Int32), iv (0 : Int32)] [(.int (0 : Int32))])
    refine Goes.step ?_ (fun _ k => XS.istoreN X0.here hx rfl (hb hby d11_54) rfl (l' := #[rv a1, iv (4 : Int32), iv (2 : Int32), iv (0 : Int32)]) rfl k)
    show Goes p e below _ (sF s₁ m 55 #[rv a1, iv (4 : Int32), iv (2 : Int32), iv (0 : Int32)] [])
    refine Goes.step ?_ (fun _ k => XS.iloadN X0.here hx rfl (hb hby d11_55) rfl  k)
    show Goes p e below _ (sF s₁ m 56 #[rv a1, iv (4 : Int32), iv (2 : Int32), iv (0 : Int32)] [(.int (2 : Int32))])
    refine Goes.step ?_ (fun _ k => XS.iconst X0.here hx rfl (hb hby d11_56) k)
    show Goes p e below _ (sF s₁ m 57 #[rv a1, iv (4 : Int32), iv (2 : Int32), iv (0 : Int32)] [(.int (2 : Int32)), (.int (2 : Int32))])
    refine Goes.step ?_ (fun _ k => XS.icmpYes X0.here hx rfl (pc0 := 57) (pc' := 83) rfl (hb hby d11_57) rfl (flt (by decide : ¬ ((2 : Int32) < (2 : Int32)))).2.2.2 (by decide) (by decide) k)
    show Goes p e below _ (sF s₁ m 83 #[rv a1, iv (4 : Int32), iv (2 : Int32), iv (0 : Int32)] [])
    refine Goes.step ?_ (fun _ k => XS.iloadN X0.here hx rfl (hb hby d11_83) rfl  k)
    show Goes p e below _ (sF s₁ m 84 #[rv a1, iv (4 : Int32), iv (2 : Int32), iv (0 : Int32)] [(.int (0 : Int32))])
    refine own_out X0 hx hlk hret rfl (Or.inl ⟨rfl, by simp, _, rfl⟩) (hb hby d11_84) ?_ (by decide) (by decide)
    show QInt r h0 n0 _ s₁.heap _
    rw [e0]
    exact ⟨by rw [← hr]; simp [hc18_5], N0, rfl⟩
theorem ef_bor4_1 (m : MethodId) (x0 : Addr) (x1 : Int32) (x2 : Int32) : entryFrame m #[(.ref x0), (.int x1), (.int x2)] 4 = mkF m 0 #[rv x0, iv x1, iv x2, .unset] [] := by first | (simp [entryFrame, mkF, argsToLocals, Value.category]; done) | rfl
set_option maxRecDepth 65536 in
set_option maxHeartbeats 40000000 in
theorem rmBor4_1 (l : Launch) (Z : State) (a0 : Array Value) (hw : ∀ d ∈ tables_1, d.before a0 Z = true) (ws : List Jvm.Cond) (a1 : Addr) (ka : ClassId) (z : Int32) (pl : List Value) (b0 : Int32) (b1 : Int32) (b2 : Int32) (b3 : Int32) (r : Int32) (h0 : Heap) (n0 : Nat) (Z0 : n0 ≤ h0.size) (V_a1 : Arv Z h0 a1 ka .byte z pl (.int (0 : Int32))) (hz0 : ¬ (0 : Int32) < 0 ∧ (0 : Int32) < z) (hz1 : ¬ (1 : Int32) < 0 ∧ (1 : Int32) < z) (hz2 : ¬ (2 : Int32) < 0 ∧ (2 : Int32) < z) (hz3 : ¬ (3 : Int32) < 0 ∧ (3 : Int32) < z) (hp0 : pl.getD ((0 : Int32)).toNatClampNeg (.int (0 : Int32)) = .int b0) (hp1 : pl.getD ((1 : Int32)).toNatClampNeg (.int (0 : Int32)) = .int b1) (hp2 : pl.getD ((2 : Int32)).toNatClampNeg (.int (0 : Int32)) = .int b2) (hp3 : pl.getD ((3 : Int32)).toNatClampNeg (.int (0 : Int32)) = .int b3) (hr : (if b0 = b3 then (1 : Int32) else 0) = r) :
    MetFree l (⟨"com/example/borderline/borderline/BorderTableShiftedPinLaw", "border", "([BII)Z"⟩ : MethodName) (head1 (Jvm.Cond.code (⟨"com/example/borderline/borderline/BorderTableShiftedPinLaw", "border", "([BII)Z"⟩ : MethodName) method_2_code 4 (some .boolean) :: ws) ({ frames := 0, cells := 0, slots := 0, locals := 0 } : Room)) (fun a U => a = #[(.ref a1), (.int (4 : Int32)), (.int (1 : Int32))] ∧ Z.Warmed39 U.vm ∧ U.heap = h0) (fun _ _ _ _ _ => True) (fun _ U o U' => ∃ v L, o = .returned v ∧ QInt r h0 n0 v U'.heap L ∧ FrameEnd U o U' L ({ frames := 0, cells := 0, slots := 0, locals := 0 } : Room).cells ({ frames := 0, cells := 0, slots := 0, locals := 0 } : Room).slots) := by
  refine MetFree.of_bodySF (plainFor_of_name pn_com_example_borderline_borderline_BorderTableShiftedPinLaw) hisR ?_
  intro p e s m args below meth c s₁ Bd hml0 hP hK
  obtain ⟨rfl, hZ, hh⟩ := hP
  have hx := Bd.exec
  have hby := Bd.bytes
  have hlk : meth.locks = false := BodyLoose.notSynchronized Bd
  have hml : c.maxLocals = 4 := hml0
  have hown : s.vm.findClass "com/example/borderline/borderline/BorderTableShiftedPinLaw" = some m.cls := findClass_of_methodNamed Bd.named
  have hnm := (name_of_methodNamed Bd.named Bd.method).1
  have X0 : Stand p l e ({ frames := 0, cells := 0, slots := 0, locals := 0 } : Room) s m #[(.ref a1), (.int (4 : Int32)), (.int (1 : Int32))] below meth c s₁ [] 0 0 := Stand.of_body Bd
  have e0 : s₁.heap = h0 := by rw [← hh, Bd.state]; rfl
  have N0 := Fr.nil n0
  have hret := Bd.returns
  show Goes p e below (fun o U' => ∃ v L, o = .returned v ∧ QInt r h0 n0 v U'.heap L ∧ FrameEnd s o U' L ({ frames := 0, cells := 0, slots := 0, locals := 0 } : Room).cells ({ frames := 0, cells := 0, slots := 0, locals := 0 } : Room).slots) (s₁.setTop (entryFrame m #[(.ref a1), (.int (4 : Int32)), (.int (1 : Int32))] 4))
  refine Goes.step ?_ (fun _ k => castTop (ef_bor4_1 m a1 (4 : Int32) (1 : Int32)) k)
  show Goes p e below _ (sF s₁ m 0 #[rv a1, iv (4 : Int32), iv (1 : Int32), .unset] [])
  refine Goes.step ?_ (fun _ k => XS.iconst X0.here hx rfl (hb hby d11_0) k)
  show Goes p e below _ (sF s₁ m 1 #[rv a1, iv (4 : Int32), iv (1 : Int32), .unset] [(.int (1 : Int32))])
  refine Goes.step ?_ (fun _ k => XS.istoreN X0.here hx rfl (hb hby d11_1) rfl (l' := #[rv a1, iv (4 : Int32), iv (1 : Int32), iv (1 : Int32)]) rfl k)
  show Goes p e below _ (sF s₁ m 2 #[rv a1, iv (4 : Int32), iv (1 : Int32), iv (1 : Int32)] [])
  refine Goes.step ?_ (fun _ k => XS.iloadN X0.here hx rfl (hb hby d11_2) rfl  k)
  show Goes p e below _ (sF s₁ m 3 #[rv a1, iv (4 : Int32), iv (1 : Int32), iv (1 : Int32)] [(.int (1 : Int32))])
  refine Goes.step ?_ (fun _ k => XS.ifNo X0.here hx rfl (hb hby d11_3) rfl ((if0 _ _).trans (tlt (by decide : (0 : Int32) < (1 : Int32))).2.2.2) k)
  show Goes p e below _ (sF s₁ m 6 #[rv a1, iv (4 : Int32), iv (1 : Int32), iv (1 : Int32)] [])
  refine Goes.step ?_ (fun _ k => XS.iloadN X0.here hx rfl (hb hby d11_6) rfl  k)
  show Goes p e below _ (sF s₁ m 7 #[rv a1, iv (4 : Int32), iv (1 : Int32), iv (1 : Int32)] [(.int (1 : Int32))])
  refine Goes.step ?_ (fun _ k => XS.ifNo X0.here hx rfl (hb hby d11_7) rfl ((if0 _ _).trans (feq (by decide : ¬ ((1 : Int32) = (0 : Int32)))).1) k)
  show Goes p e below _ (sF s₁ m 10 #[rv a1, iv (4 : Int32), iv (1 : Int32), iv (1 : Int32)] [])
  refine Goes.step ?_ (fun _ k => XS.aloadN X0.here hx rfl (hb hby d11_10) rfl rfl k)
  show Goes p e below _ (sF s₁ m 11 #[rv a1, iv (4 : Int32), iv (1 : Int32), iv (1 : Int32)] [(.ref a1)])
  refine Goes.step ?_ (fun _ k => XS.iconst X0.here hx rfl (hb hby d11_11) k)
  show Goes p e below _ (sF s₁ m 12 #[rv a1, iv (4 : Int32), iv (1 : Int32), iv (1 : Int32)] [(.int (0 : Int32)), (.ref a1)])
  obtain ⟨cl1, Ar1, q1, S1, N_1, H1, G1⟩ := id V_a1
  have hin2 : ¬ ((0 : Int32) < 0 ∨ cl1.slots.size ≤ ((0 : Int32)).toNatClampNeg) := inb_of S1 hz0
  have hat2 : cl1.slots[((0 : Int32)).toNatClampNeg]? = some (.int b0) := H1.at hin2 hp0
  refine Goes.step ?_ (fun _ k => X0.baloadBytes hx (j := (0 : Int32)) (v := (.int b0)) (by rw [e0]; exact Ar1.1) (State.isArrayOf_alike hZ.alike Ar1.2.1) Ar1.2.2 hin2 hat2 (g := (mkF m 12 #[rv a1, iv (4 : Int32), iv (1 : Int32), iv (1 : Int32)] [(.int (0 : Int32)), (.ref a1)])) rfl rfl (hb hby d11_12) _ k)
  show Goes p e below _ (sF s₁ m 13 #[rv a1, iv (4 : Int32), iv (1 : Int32), iv (1 : Int32)] [(.int b0)])
  refine Goes.step ?_ (fun _ k => XS.aloadN X0.here hx rfl (hb hby d11_13) rfl rfl k)
  show Goes p e below _ (sF s₁ m 14 #[rv a1, iv (4 : Int32), iv (1 : Int32), iv (1 : Int32)] [(.ref a1), (.int b0)])
  refine Goes.step ?_ (fun _ k => XS.iloadN X0.here hx rfl (hb hby d11_14) rfl  k)
  show Goes p e below _ (sF s₁ m 15 #[rv a1, iv (4 : Int32), iv (1 : Int32), iv (1 : Int32)] [(.int (4 : Int32)), (.ref a1), (.int b0)])
  refine Goes.step ?_ (fun _ k => XS.iloadN X0.here hx rfl (hb hby d11_15) rfl  k)
  show Goes p e below _ (sF s₁ m 16 #[rv a1, iv (4 : Int32), iv (1 : Int32), iv (1 : Int32)] [(.int (1 : Int32)), (.int (4 : Int32)), (.ref a1), (.int b0)])
  refine Goes.step ?_ (fun _ k => XS.isub X0.here hx rfl (hb hby d11_16) rfl k)
  show Goes p e below _ (sF s₁ m 17 #[rv a1, iv (4 : Int32), iv (1 : Int32), iv (1 : Int32)] [(.int ((4 : Int32) - (1 : Int32))), (.ref a1), (.int b0)])
  rw [show ((4 : Int32) - (1 : Int32)) = (3 : Int32) from by decide]
  show Goes p e below _ (sF s₁ m 17 #[rv a1, iv (4 : Int32), iv (1 : Int32), iv (1 : Int32)] [(.int (3 : Int32)), (.ref a1), (.int b0)])
  obtain ⟨cl3, Ar3, q3, S3, N_3, H3, G3⟩ := id V_a1
  have hin4 : ¬ ((3 : Int32) < 0 ∨ cl3.slots.size ≤ ((3 : Int32)).toNatClampNeg) := inb_of S3 hz3
  have hat4 : cl3.slots[((3 : Int32)).toNatClampNeg]? = some (.int b3) := H3.at hin4 hp3
  refine Goes.step ?_ (fun _ k => X0.baloadBytes hx (j := (3 : Int32)) (v := (.int b3)) (by rw [e0]; exact Ar3.1) (State.isArrayOf_alike hZ.alike Ar3.2.1) Ar3.2.2 hin4 hat4 (g := (mkF m 17 #[rv a1, iv (4 : Int32), iv (1 : Int32), iv (1 : Int32)] [(.int (3 : Int32)), (.ref a1), (.int b0)])) rfl rfl (hb hby d11_17) _ k)
  show Goes p e below _ (sF s₁ m 18 #[rv a1, iv (4 : Int32), iv (1 : Int32), iv (1 : Int32)] [(.int b3), (.int b0)])
  by_cases hc18_5 : b0 = b3
  · refine Goes.step ?_ (fun _ k => XS.icmpNo X0.here hx rfl (hb hby d11_18) rfl (teq hc18_5).2 k)
    show Goes p e below _ (sF s₁ m 21 #[rv a1, iv (4 : Int32), iv (1 : Int32), iv (1 : Int32)] [])
    refine Goes.step ?_ (fun _ k => XS.iconst X0.here hx rfl (hb hby d11_21) k)
    show Goes p e below _ (sF s₁ m 22 #[rv a1, iv (4 : Int32), iv (1 : Int32), iv (1 : Int32)] [(.int (1 : Int32))])
    refine Goes.step ?_ (fun _ k => XS.goto X0.here hx rfl (pc0 := 22) (pc' := 26) rfl (hb hby d11_22) (by decide) (by decide) k)
    show Goes p e below _ (sF s₁ m 26 #[rv a1, iv (4 : Int32), iv (1 : Int32), iv (1 : Int32)] [(.int (1 : Int32))])
    refine Goes.step ?_ (fun _ k => XS.istoreN X0.here hx rfl (hb hby d11_26) rfl (l' := #[rv a1, iv (4 : Int32), iv (1 : Int32), iv (1 : Int32)]) rfl k)
    show Goes p e below _ (sF s₁ m 27 #[rv a1, iv (4 : Int32), iv (1 : Int32), iv (1 : Int32)] [])
    refine Goes.step ?_ (fun _ k => XS.iloadN X0.here hx rfl (hb hby d11_27) rfl  k)
    show Goes p e below _ (sF s₁ m 28 #[rv a1, iv (4 : Int32), iv (1 : Int32), iv (1 : Int32)] [(.int (1 : Int32))])
    refine Goes.step ?_ (fun _ k => XS.iconst X0.here hx rfl (hb hby d11_28) k)
    show Goes p e below _ (sF s₁ m 29 #[rv a1, iv (4 : Int32), iv (1 : Int32), iv (1 : Int32)] [(.int (1 : Int32)), (.int (1 : Int32))])
    refine Goes.step ?_ (fun _ k => XS.icmpYes X0.here hx rfl (pc0 := 29) (pc' := 55) rfl (hb hby d11_29) rfl (flt (by decide : ¬ ((1 : Int32) < (1 : Int32)))).2.2.2 (by decide) (by decide) k)
    show Goes p e below _ (sF s₁ m 55 #[rv a1, iv (4 : Int32), iv (1 : Int32), iv (1 : Int32)] [])
    refine Goes.step ?_ (fun _ k => XS.iloadN X0.here hx rfl (hb hby d11_55) rfl  k)
    show Goes p e below _ (sF s₁ m 56 #[rv a1, iv (4 : Int32), iv (1 : Int32), iv (1 : Int32)] [(.int (1 : Int32))])
    refine Goes.step ?_ (fun _ k => XS.iconst X0.here hx rfl (hb hby d11_56) k)
    show Goes p e below _ (sF s₁ m 57 #[rv a1, iv (4 : Int32), iv (1 : Int32), iv (1 : Int32)] [(.int (2 : Int32)), (.int (1 : Int32))])
    refine Goes.step ?_ (fun _ k => XS.icmpYes X0.here hx rfl (pc0 := 57) (pc' := 83) rfl (hb hby d11_57) rfl (flt (by decide : ¬ ((2 : Int32) < (1 : Int32)))).2.2.2 (by decide) (by decide) k)
    show Goes p e below _ (sF s₁ m 83 #[rv a1, iv (4 : Int32), iv (1 : Int32), iv (1 : Int32)] [])
    refine Goes.step ?_ (fun _ k => XS.iloadN X0.here hx rfl (hb hby d11_83) rfl  k)
    show Goes p e below _ (sF s₁ m 84 #[rv a1, iv (4 : Int32), iv (1 : Int32), iv (1 : Int32)] [(.int (1 : Int32))])
    refine own_out X0 hx hlk hret rfl (Or.inl ⟨rfl, by simp, _, rfl⟩) (hb hby d11_84) ?_ (by decide) (by decide)
    show QInt r h0 n0 _ s₁.heap _
    rw [e0]
    exact ⟨by rw [← hr]; simp [hc18_5], N0, rfl⟩
  · refine Goes.step ?_ (fun _ k => XS.icmpYes X0.here hx rfl (pc0 := 18) (pc' := 25) rfl (hb hby d11_18) rfl (feq hc18_5).2 (by decide) (by decide) k)
    show Goes p e below _ (sF s₁ m 25 #[rv a1, iv (4 : Int32), iv (1 : Int32), iv (1 : Int32)] [])
    refine Goes.step ?_ (fun _ k => XS.iconst X0.here hx rfl (hb hby d11_25) k)
    show Goes p e below _ (sF s₁ m 26 #[rv a1, iv (4 : Int32), iv (1 : Int32), iv (1 : Int32)] [(.int (0 : Int32))])
    refine Goes.step ?_ (fun _ k => XS.istoreN X0.here hx rfl (hb hby d11_26) rfl (l' := #[rv a1, iv (4 : Int32), iv (1 : Int32), iv (0 : Int32)]) rfl k)
    show Goes p e below _ (sF s₁ m 27 #[rv a1, iv (4 : Int32), iv (1 : Int32), iv (0 : Int32)] [])
    refine Goes.step ?_ (fun _ k => XS.iloadN X0.here hx rfl (hb hby d11_27) rfl  k)
    show Goes p e below _ (sF s₁ m 28 #[rv a1, iv (4 : Int32), iv (1 : Int32), iv (0 : Int32)] [(.int (1 : Int32))])
    refine Goes.step ?_ (fun _ k => XS.iconst X0.here hx rfl (hb hby d11_28) k)
    show Goes p e below _ (sF s₁ m 29 #[rv a1, iv (4 : Int32), iv (1 : Int32), iv (0 : Int32)] [(.int (1 : Int32)), (.int (1 : Int32))])
    refine Goes.step ?_ (fun _ k => XS.icmpYes X0.here hx rfl (pc0 := 29) (pc' := 55) rfl (hb hby d11_29) rfl (flt (by decide : ¬ ((1 : Int32) < (1 : Int32)))).2.2.2 (by decide) (by decide) k)
    show Goes p e below _ (sF s₁ m 55 #[rv a1, iv (4 : Int32), iv (1 : Int32), iv (0 : Int32)] [])
    refine Goes.step ?_ (fun _ k => XS.iloadN X0.here hx rfl (hb hby d11_55) rfl  k)
    show Goes p e below _ (sF s₁ m 56 #[rv a1, iv (4 : Int32), iv (1 : Int32), iv (0 : Int32)] [(.int (1 : Int32))])
    refine Goes.step ?_ (fun _ k => XS.iconst X0.here hx rfl (hb hby d11_56) k)
    show Goes p e below _ (sF s₁ m 57 #[rv a1, iv (4 : Int32), iv (1 : Int32), iv (0 : Int32)] [(.int (2 : Int32)), (.int (1 : Int32))])
    refine Goes.step ?_ (fun _ k => XS.icmpYes X0.here hx rfl (pc0 := 57) (pc' := 83) rfl (hb hby d11_57) rfl (flt (by decide : ¬ ((2 : Int32) < (1 : Int32)))).2.2.2 (by decide) (by decide) k)
    show Goes p e below _ (sF s₁ m 83 #[rv a1, iv (4 : Int32), iv (1 : Int32), iv (0 : Int32)] [])
    refine Goes.step ?_ (fun _ k => XS.iloadN X0.here hx rfl (hb hby d11_83) rfl  k)
    show Goes p e below _ (sF s₁ m 84 #[rv a1, iv (4 : Int32), iv (1 : Int32), iv (0 : Int32)] [(.int (0 : Int32))])
    refine own_out X0 hx hlk hret rfl (Or.inl ⟨rfl, by simp, _, rfl⟩) (hb hby d11_84) ?_ (by decide) (by decide)
    show QInt r h0 n0 _ s₁.heap _
    rw [e0]
    exact ⟨by rw [← hr]; simp [hc18_5], N0, rfl⟩
theorem ef_lo1 (m : MethodId) (x0 : Addr) (x1 : Int32) : entryFrame m #[(.ref x0), (.int x1)] 2 = mkF m 0 #[rv x0, iv x1] [] := by first | (simp [entryFrame, mkF, argsToLocals, Value.category]; done) | rfl
theorem d10_0 : decode method_3_code 0 = .ok (.iload_n 1, 1) := by decide +kernel
theorem d10_1 : decode method_3_code 1 = .ok (.iconst 3, 1) := by decide +kernel
theorem d10_2 : decode method_3_code 2 = .ok (.if_icmp .le 14, 3) := by decide +kernel
theorem d10_16 : decode method_3_code 16 = .ok (.iload_n 1, 1) := by decide +kernel
theorem d10_17 : decode method_3_code 17 = .ok (.iconst 2, 1) := by decide +kernel
theorem d10_18 : decode method_3_code 18 = .ok (.if_icmp .le 14, 3) := by decide +kernel
theorem d10_32 : decode method_3_code 32 = .ok (.iload_n 1, 1) := by decide +kernel
theorem d10_33 : decode method_3_code 33 = .ok (.iconst 1, 1) := by decide +kernel
theorem d10_34 : decode method_3_code 34 = .ok (.if_icmp .le 14, 3) := by decide +kernel
theorem d10_48 : decode method_3_code 48 = .ok (.iconst 0, 1) := by decide +kernel
theorem d10_49 : decode method_3_code 49 = .ok (.ireturn, 1) := by decide +kernel
set_option maxRecDepth 65536 in
set_option maxHeartbeats 40000000 in
theorem rmLo1 (l : Launch) (Z : State) (a0 : Array Value) (hw : ∀ d ∈ tables_1, d.before a0 Z = true) (ws : List Jvm.Cond) (a1 : Addr) (ka : ClassId) (z : Int32) (pl : List Value) (b0 : Int32) (h0 : Heap) (n0 : Nat) (Z0 : n0 ≤ h0.size) (V_a1 : Arv Z h0 a1 ka .byte z pl (.int (0 : Int32))) (hz0 : ¬ (0 : Int32) < 0 ∧ (0 : Int32) < z) (hp0 : pl.getD ((0 : Int32)).toNatClampNeg (.int (0 : Int32)) = .int b0) :
    MetFree l (⟨"com/example/borderline/borderline/BorderTableShiftedPinLaw", "longest", "([BI)I"⟩ : MethodName) (head1 (Jvm.Cond.code (⟨"com/example/borderline/borderline/BorderTableShiftedPinLaw", "longest", "([BI)I"⟩ : MethodName) method_3_code 2 (some .int) :: ws) ({ frames := 1, cells := 0, slots := 0, locals := 15 } : Room)) (fun a U => a = #[(.ref a1), (.int (1 : Int32))] ∧ Z.Warmed39 U.vm ∧ U.heap = h0) (fun _ _ _ _ _ => True) (fun _ U o U' => ∃ v L, o = .returned v ∧ QInt (0 : Int32) h0 n0 v U'.heap L ∧ FrameEnd U o U' L ({ frames := 1, cells := 0, slots := 0, locals := 15 } : Room).cells ({ frames := 1, cells := 0, slots := 0, locals := 15 } : Room).slots) := by
  refine MetFree.of_bodySF (plainFor_of_name pn_com_example_borderline_borderline_BorderTableShiftedPinLaw) hisR ?_
  intro p e s m args below meth c s₁ Bd hml0 hP hK
  obtain ⟨rfl, hZ, hh⟩ := hP
  have hx := Bd.exec
  have hby := Bd.bytes
  have hlk : meth.locks = false := BodyLoose.notSynchronized Bd
  have hml : c.maxLocals = 2 := hml0
  have hown : s.vm.findClass "com/example/borderline/borderline/BorderTableShiftedPinLaw" = some m.cls := findClass_of_methodNamed Bd.named
  have hnm := (name_of_methodNamed Bd.named Bd.method).1
  have X0 : Stand p l e ({ frames := 1, cells := 0, slots := 0, locals := 15 } : Room) s m #[(.ref a1), (.int (1 : Int32))] below meth c s₁ [] 0 0 := Stand.of_body Bd
  have e0 : s₁.heap = h0 := by rw [← hh, Bd.state]; rfl
  have N0 := Fr.nil n0
  have hret := Bd.returns
  show Goes p e below (fun o U' => ∃ v L, o = .returned v ∧ QInt (0 : Int32) h0 n0 v U'.heap L ∧ FrameEnd s o U' L ({ frames := 1, cells := 0, slots := 0, locals := 15 } : Room).cells ({ frames := 1, cells := 0, slots := 0, locals := 15 } : Room).slots) (s₁.setTop (entryFrame m #[(.ref a1), (.int (1 : Int32))] 2))
  refine Goes.step ?_ (fun _ k => castTop (ef_lo1 m a1 (1 : Int32)) k)
  show Goes p e below _ (sF s₁ m 0 #[rv a1, iv (1 : Int32)] [])
  refine Goes.step ?_ (fun _ k => XS.iloadN X0.here hx rfl (hb hby d10_0) rfl  k)
  show Goes p e below _ (sF s₁ m 1 #[rv a1, iv (1 : Int32)] [(.int (1 : Int32))])
  refine Goes.step ?_ (fun _ k => XS.iconst X0.here hx rfl (hb hby d10_1) k)
  show Goes p e below _ (sF s₁ m 2 #[rv a1, iv (1 : Int32)] [(.int (3 : Int32)), (.int (1 : Int32))])
  refine Goes.step ?_ (fun _ k => XS.icmpYes X0.here hx rfl (pc0 := 2) (pc' := 16) rfl (hb hby d10_2) rfl (flt (by decide : ¬ ((3 : Int32) < (1 : Int32)))).2.2.2 (by decide) (by decide) k)
  show Goes p e below _ (sF s₁ m 16 #[rv a1, iv (1 : Int32)] [])
  refine Goes.step ?_ (fun _ k => XS.iloadN X0.here hx rfl (hb hby d10_16) rfl  k)
  show Goes p e below _ (sF s₁ m 17 #[rv a1, iv (1 : Int32)] [(.int (1 : Int32))])
  refine Goes.step ?_ (fun _ k => XS.iconst X0.here hx rfl (hb hby d10_17) k)
  show Goes p e below _ (sF s₁ m 18 #[rv a1, iv (1 : Int32)] [(.int (2 : Int32)), (.int (1 : Int32))])
  refine Goes.step ?_ (fun _ k => XS.icmpYes X0.here hx rfl (pc0 := 18) (pc' := 32) rfl (hb hby d10_18) rfl (flt (by decide : ¬ ((2 : Int32) < (1 : Int32)))).2.2.2 (by decide) (by decide) k)
  show Goes p e below _ (sF s₁ m 32 #[rv a1, iv (1 : Int32)] [])
  refine Goes.step ?_ (fun _ k => XS.iloadN X0.here hx rfl (hb hby d10_32) rfl  k)
  show Goes p e below _ (sF s₁ m 33 #[rv a1, iv (1 : Int32)] [(.int (1 : Int32))])
  refine Goes.step ?_ (fun _ k => XS.iconst X0.here hx rfl (hb hby d10_33) k)
  show Goes p e below _ (sF s₁ m 34 #[rv a1, iv (1 : Int32)] [(.int (1 : Int32)), (.int (1 : Int32))])
  refine Goes.step ?_ (fun _ k => XS.icmpYes X0.here hx rfl (pc0 := 34) (pc' := 48) rfl (hb hby d10_34) rfl (flt (by decide : ¬ ((1 : Int32) < (1 : Int32)))).2.2.2 (by decide) (by decide) k)
  show Goes p e below _ (sF s₁ m 48 #[rv a1, iv (1 : Int32)] [])
  refine Goes.step ?_ (fun _ k => XS.iconst X0.here hx rfl (hb hby d10_48) k)
  show Goes p e below _ (sF s₁ m 49 #[rv a1, iv (1 : Int32)] [(.int (0 : Int32))])
  refine own_out X0 hx hlk hret rfl (Or.inl ⟨rfl, by simp, _, rfl⟩) (hb hby d10_49) ?_ (by decide) (by decide)
  show QInt (0 : Int32) h0 n0 _ s₁.heap _
  rw [e0]
  exact ⟨rfl, N0, rfl⟩
theorem ef_lo2 (m : MethodId) (x0 : Addr) (x1 : Int32) : entryFrame m #[(.ref x0), (.int x1)] 2 = mkF m 0 #[rv x0, iv x1] [] := by first | (simp [entryFrame, mkF, argsToLocals, Value.category]; done) | rfl
theorem d10_37 : decode method_3_code 37 = .ok (.aload_n 0, 1) := by decide +kernel
theorem d10_38 : decode method_3_code 38 = .ok (.iload_n 1, 1) := by decide +kernel
theorem d10_39 : decode method_3_code 39 = .ok (.iconst 1, 1) := by decide +kernel
theorem d10_40 : decode method_3_code 40 = .ok (.invokestatic 7, 3) := by decide +kernel
theorem d10_43 : decode method_3_code 43 = .ok (.ifCond .eq 5, 3) := by decide +kernel
theorem d10_46 : decode method_3_code 46 = .ok (.iconst 1, 1) := by decide +kernel
theorem d10_47 : decode method_3_code 47 = .ok (.ireturn, 1) := by decide +kernel
set_option maxRecDepth 65536 in
set_option maxHeartbeats 40000000 in
theorem rmLo2 (l : Launch) (Z : State) (a0 : Array Value) (hw : ∀ d ∈ tables_1, d.before a0 Z = true) (ws : List Jvm.Cond) (a1 : Addr) (ka : ClassId) (z : Int32) (pl : List Value) (b0 : Int32) (b1 : Int32) (h0 : Heap) (n0 : Nat) (Z0 : n0 ≤ h0.size) (V_a1 : Arv Z h0 a1 ka .byte z pl (.int (0 : Int32))) (hz0 : ¬ (0 : Int32) < 0 ∧ (0 : Int32) < z) (hz1 : ¬ (1 : Int32) < 0 ∧ (1 : Int32) < z) (hp0 : pl.getD ((0 : Int32)).toNatClampNeg (.int (0 : Int32)) = .int b0) (hp1 : pl.getD ((1 : Int32)).toNatClampNeg (.int (0 : Int32)) = .int b1) :
    MetFree l (⟨"com/example/borderline/borderline/BorderTableShiftedPinLaw", "longest", "([BI)I"⟩ : MethodName) (head1 (Jvm.Cond.code (⟨"com/example/borderline/borderline/BorderTableShiftedPinLaw", "longest", "([BI)I"⟩ : MethodName) method_3_code 2 (some .int) :: ws) ({ frames := 1, cells := 0, slots := 0, locals := 15 } : Room)) (fun a U => a = #[(.ref a1), (.int (2 : Int32))] ∧ Z.Warmed39 U.vm ∧ U.heap = h0) (fun _ _ _ _ _ => True) (fun _ U o U' => ∃ v L, o = .returned v ∧ QInt (lg2 b0 b1) h0 n0 v U'.heap L ∧ FrameEnd U o U' L ({ frames := 1, cells := 0, slots := 0, locals := 15 } : Room).cells ({ frames := 1, cells := 0, slots := 0, locals := 15 } : Room).slots) := by
  refine MetFree.of_bodySF (plainFor_of_name pn_com_example_borderline_borderline_BorderTableShiftedPinLaw) hisR ?_
  intro p e s m args below meth c s₁ Bd hml0 hP hK
  obtain ⟨rfl, hZ, hh⟩ := hP
  have hx := Bd.exec
  have hby := Bd.bytes
  have hlk : meth.locks = false := BodyLoose.notSynchronized Bd
  have hml : c.maxLocals = 2 := hml0
  have hown : s.vm.findClass "com/example/borderline/borderline/BorderTableShiftedPinLaw" = some m.cls := findClass_of_methodNamed Bd.named
  have hnm := (name_of_methodNamed Bd.named Bd.method).1
  have X0 : Stand p l e ({ frames := 1, cells := 0, slots := 0, locals := 15 } : Room) s m #[(.ref a1), (.int (2 : Int32))] below meth c s₁ [] 0 0 := Stand.of_body Bd
  have e0 : s₁.heap = h0 := by rw [← hh, Bd.state]; rfl
  have N0 := Fr.nil n0
  have hret := Bd.returns
  show Goes p e below (fun o U' => ∃ v L, o = .returned v ∧ QInt (lg2 b0 b1) h0 n0 v U'.heap L ∧ FrameEnd s o U' L ({ frames := 1, cells := 0, slots := 0, locals := 15 } : Room).cells ({ frames := 1, cells := 0, slots := 0, locals := 15 } : Room).slots) (s₁.setTop (entryFrame m #[(.ref a1), (.int (2 : Int32))] 2))
  refine Goes.step ?_ (fun _ k => castTop (ef_lo2 m a1 (2 : Int32)) k)
  show Goes p e below _ (sF s₁ m 0 #[rv a1, iv (2 : Int32)] [])
  refine Goes.step ?_ (fun _ k => XS.iloadN X0.here hx rfl (hb hby d10_0) rfl  k)
  show Goes p e below _ (sF s₁ m 1 #[rv a1, iv (2 : Int32)] [(.int (2 : Int32))])
  refine Goes.step ?_ (fun _ k => XS.iconst X0.here hx rfl (hb hby d10_1) k)
  show Goes p e below _ (sF s₁ m 2 #[rv a1, iv (2 : Int32)] [(.int (3 : Int32)), (.int (2 : Int32))])
  refine Goes.step ?_ (fun _ k => XS.icmpYes X0.here hx rfl (pc0 := 2) (pc' := 16) rfl (hb hby d10_2) rfl (flt (by decide : ¬ ((3 : Int32) < (2 : Int32)))).2.2.2 (by decide) (by decide) k)
  show Goes p e below _ (sF s₁ m 16 #[rv a1, iv (2 : Int32)] [])
  refine Goes.step ?_ (fun _ k => XS.iloadN X0.here hx rfl (hb hby d10_16) rfl  k)
  show Goes p e below _ (sF s₁ m 17 #[rv a1, iv (2 : Int32)] [(.int (2 : Int32))])
  refine Goes.step ?_ (fun _ k => XS.iconst X0.here hx rfl (hb hby d10_17) k)
  show Goes p e below _ (sF s₁ m 18 #[rv a1, iv (2 : Int32)] [(.int (2 : Int32)), (.int (2 : Int32))])
  refine Goes.step ?_ (fun _ k => XS.icmpYes X0.here hx rfl (pc0 := 18) (pc' := 32) rfl (hb hby d10_18) rfl (flt (by decide : ¬ ((2 : Int32) < (2 : Int32)))).2.2.2 (by decide) (by decide) k)
  show Goes p e below _ (sF s₁ m 32 #[rv a1, iv (2 : Int32)] [])
  refine Goes.step ?_ (fun _ k => XS.iloadN X0.here hx rfl (hb hby d10_32) rfl  k)
  show Goes p e below _ (sF s₁ m 33 #[rv a1, iv (2 : Int32)] [(.int (2 : Int32))])
  refine Goes.step ?_ (fun _ k => XS.iconst X0.here hx rfl (hb hby d10_33) k)
  show Goes p e below _ (sF s₁ m 34 #[rv a1, iv (2 : Int32)] [(.int (1 : Int32)), (.int (2 : Int32))])
  refine Goes.step ?_ (fun _ k => XS.icmpNo X0.here hx rfl (hb hby d10_34) rfl (tlt (by decide : (1 : Int32) < (2 : Int32))).2.2.2 k)
  show Goes p e below _ (sF s₁ m 37 #[rv a1, iv (2 : Int32)] [])
  refine Goes.step ?_ (fun _ k => XS.aloadN X0.here hx rfl (hb hby d10_37) rfl rfl k)
  show Goes p e below _ (sF s₁ m 38 #[rv a1, iv (2 : Int32)] [(.ref a1)])
  refine Goes.step ?_ (fun _ k => XS.iloadN X0.here hx rfl (hb hby d10_38) rfl  k)
  show Goes p e below _ (sF s₁ m 39 #[rv a1, iv (2 : Int32)] [(.int (2 : Int32)), (.ref a1)])
  refine Goes.step ?_ (fun _ k => XS.iconst X0.here hx rfl (hb hby d10_39) k)
  show Goes p e below _ (sF s₁ m 40 #[rv a1, iv (2 : Int32)] [(.int (1 : Int32)), (.int (2 : Int32)), (.ref a1)])
  by_cases hB1_1 : b0 = b1
  · obtain ⟨_, _, ⟨T2, L2, k2, n2⟩, -, X2, ⟨Lc2, hQ2, l2, y2, z2⟩, st2⟩ := Jvm.LawKit.callS X0 hx (y := (⟨"com/example/borderline/borderline/BorderTableShiftedPinLaw", "border", "([BII)Z"⟩ : MethodName)) hown (mvT hZ (hw _ (List.mem_of_getElem? (i := 52) rfl))) (mvT hZ (hw _ (List.mem_of_getElem? (i := 53) rfl))) (mvT hZ (hw _ (List.mem_of_getElem? (i := 50) rfl))) (mvT hZ (hw _ (List.mem_of_getElem? (i := 54) rfl))) (by decide) (backOf (W := 0) (rmBor2_1 l Z a0 hw [] a1 ka z pl b0 b1 (1 : Int32) h0 n0 Z0 V_a1 hz0 hz1 hp0 hp1 (by rw [if_pos hB1_1])) hZ (hw _ (List.mem_of_getElem? (i := 54) rfl)) (hw _ (List.mem_of_getElem? (i := 50) rfl)) (by decide) (by decide)) (g := (mkF m 40 #[rv a1, iv (2 : Int32)] [(.int (1 : Int32)), (.int (2 : Int32)), (.ref a1)])) rfl (by rw [hml]; rfl) (argsL := [(.ref a1), (.int (2 : Int32)), (.int (1 : Int32))]) (rest := []) (lenOf pd__28_5bBII_29Z rfl) rfl (by show 2 * 0 + _ ≤ _; exact Nat.le_of_eq rfl) (hb hby d10_40) (fun _ _ => ⟨rfl, e0, (by decide : 0 + 0 ≤ _), (by decide : 0 + 0 ≤ _)⟩)
    dsimp only [Pt.U, Pt.locs, Pt.cells, Pt.slots] at X2 l2 y2 z2 st2 hQ2
    subst l2 y2 z2
    obtain ⟨rfl, N2q, e2⟩ := hQ2
    have N2 := Fr.app N0 N2q
    refine Goes.step ?_ st2
    show Goes p e below _ (sF T2 m 43 #[rv a1, iv (2 : Int32)] [(.int (1 : Int32))])
    refine Goes.step ?_ (fun _ k => XS.ifNo X2.here hx rfl (hb hby d10_43) rfl ((if0 _ _).trans (feq (by decide : ¬ ((1 : Int32) = (0 : Int32)))).1) k)
    show Goes p e below _ (sF T2 m 46 #[rv a1, iv (2 : Int32)] [])
    refine Goes.step ?_ (fun _ k => XS.iconst X2.here hx rfl (hb hby d10_46) k)
    show Goes p e below _ (sF T2 m 47 #[rv a1, iv (2 : Int32)] [(.int (1 : Int32))])
    refine own_out X2 hx hlk hret rfl (Or.inl ⟨rfl, by simp, _, rfl⟩) (hb hby d10_47) ?_ (by decide) (by decide)
    show QInt (lg2 b0 b1) h0 n0 _ T2.heap _
    rw [e2]
    exact ⟨by unfold lg2; rw [if_pos hB1_1], N2, rfl⟩
  · obtain ⟨_, _, ⟨T3, L3, k3, n3⟩, -, X3, ⟨Lc3, hQ3, l3, y3, z3⟩, st3⟩ := Jvm.LawKit.callS X0 hx (y := (⟨"com/example/borderline/borderline/BorderTableShiftedPinLaw", "border", "([BII)Z"⟩ : MethodName)) hown (mvT hZ (hw _ (List.mem_of_getElem? (i := 52) rfl))) (mvT hZ (hw _ (List.mem_of_getElem? (i := 53) rfl))) (mvT hZ (hw _ (List.mem_of_getElem? (i := 50) rfl))) (mvT hZ (hw _ (List.mem_of_getElem? (i := 54) rfl))) (by decide) (backOf (W := 0) (rmBor2_1 l Z a0 hw [] a1 ka z pl b0 b1 (0 : Int32) h0 n0 Z0 V_a1 hz0 hz1 hp0 hp1 (by rw [if_neg hB1_1])) hZ (hw _ (List.mem_of_getElem? (i := 54) rfl)) (hw _ (List.mem_of_getElem? (i := 50) rfl)) (by decide) (by decide)) (g := (mkF m 40 #[rv a1, iv (2 : Int32)] [(.int (1 : Int32)), (.int (2 : Int32)), (.ref a1)])) rfl (by rw [hml]; rfl) (argsL := [(.ref a1), (.int (2 : Int32)), (.int (1 : Int32))]) (rest := []) (lenOf pd__28_5bBII_29Z rfl) rfl (by show 2 * 0 + _ ≤ _; exact Nat.le_of_eq rfl) (hb hby d10_40) (fun _ _ => ⟨rfl, e0, (by decide : 0 + 0 ≤ _), (by decide : 0 + 0 ≤ _)⟩)
    dsimp only [Pt.U, Pt.locs, Pt.cells, Pt.slots] at X3 l3 y3 z3 st3 hQ3
    subst l3 y3 z3
    obtain ⟨rfl, N3q, e3⟩ := hQ3
    have N3 := Fr.app N0 N3q
    refine Goes.step ?_ st3
    show Goes p e below _ (sF T3 m 43 #[rv a1, iv (2 : Int32)] [(.int (0 : Int32))])
    refine Goes.step ?_ (fun _ k => XS.ifYes X3.here hx rfl (pc0 := 43) (pc' := 48) rfl (hb hby d10_43) rfl ((if0 _ _).trans (teq (by decide : (0 : Int32) = (0 : Int32))).1) (by decide) (by decide) k)
    show Goes p e below _ (sF T3 m 48 #[rv a1, iv (2 : Int32)] [])
    refine Goes.step ?_ (fun _ k => XS.iconst X3.here hx rfl (hb hby d10_48) k)
    show Goes p e below _ (sF T3 m 49 #[rv a1, iv (2 : Int32)] [(.int (0 : Int32))])
    refine own_out X3 hx hlk hret rfl (Or.inl ⟨rfl, by simp, _, rfl⟩) (hb hby d10_49) ?_ (by decide) (by decide)
    show QInt (lg2 b0 b1) h0 n0 _ T3.heap _
    rw [e3]
    exact ⟨by unfold lg2; rw [if_neg hB1_1], N3, rfl⟩
theorem ef_lo3 (m : MethodId) (x0 : Addr) (x1 : Int32) : entryFrame m #[(.ref x0), (.int x1)] 2 = mkF m 0 #[rv x0, iv x1] [] := by first | (simp [entryFrame, mkF, argsToLocals, Value.category]; done) | rfl
theorem d10_21 : decode method_3_code 21 = .ok (.aload_n 0, 1) := by decide +kernel
theorem d10_22 : decode method_3_code 22 = .ok (.iload_n 1, 1) := by decide +kernel
theorem d10_23 : decode method_3_code 23 = .ok (.iconst 2, 1) := by decide +kernel
theorem d10_24 : decode method_3_code 24 = .ok (.invokestatic 7, 3) := by decide +kernel
theorem d10_27 : decode method_3_code 27 = .ok (.ifCond .eq 5, 3) := by decide +kernel
theorem d10_30 : decode method_3_code 30 = .ok (.iconst 2, 1) := by decide +kernel
theorem d10_31 : decode method_3_code 31 = .ok (.ireturn, 1) := by decide +kernel
set_option maxRecDepth 65536 in
set_option maxHeartbeats 40000000 in
theorem rmLo3 (l : Launch) (Z : State) (a0 : Array Value) (hw : ∀ d ∈ tables_1, d.before a0 Z = true) (ws : List Jvm.Cond) (a1 : Addr) (ka : ClassId) (z : Int32) (pl : List Value) (b0 : Int32) (b1 : Int32) (b2 : Int32) (h0 : Heap) (n0 : Nat) (Z0 : n0 ≤ h0.size) (V_a1 : Arv Z h0 a1 ka .byte z pl (.int (0 : Int32))) (hz0 : ¬ (0 : Int32) < 0 ∧ (0 : Int32) < z) (hz1 : ¬ (1 : Int32) < 0 ∧ (1 : Int32) < z) (hz2 : ¬ (2 : Int32) < 0 ∧ (2 : Int32) < z) (hp0 : pl.getD ((0 : Int32)).toNatClampNeg (.int (0 : Int32)) = .int b0) (hp1 : pl.getD ((1 : Int32)).toNatClampNeg (.int (0 : Int32)) = .int b1) (hp2 : pl.getD ((2 : Int32)).toNatClampNeg (.int (0 : Int32)) = .int b2) :
    MetFree l (⟨"com/example/borderline/borderline/BorderTableShiftedPinLaw", "longest", "([BI)I"⟩ : MethodName) (head1 (Jvm.Cond.code (⟨"com/example/borderline/borderline/BorderTableShiftedPinLaw", "longest", "([BI)I"⟩ : MethodName) method_3_code 2 (some .int) :: ws) ({ frames := 1, cells := 0, slots := 0, locals := 15 } : Room)) (fun a U => a = #[(.ref a1), (.int (3 : Int32))] ∧ Z.Warmed39 U.vm ∧ U.heap = h0) (fun _ _ _ _ _ => True) (fun _ U o U' => ∃ v L, o = .returned v ∧ QInt (lg3 b0 b1 b2) h0 n0 v U'.heap L ∧ FrameEnd U o U' L ({ frames := 1, cells := 0, slots := 0, locals := 15 } : Room).cells ({ frames := 1, cells := 0, slots := 0, locals := 15 } : Room).slots) := by
  refine MetFree.of_bodySF (plainFor_of_name pn_com_example_borderline_borderline_BorderTableShiftedPinLaw) hisR ?_
  intro p e s m args below meth c s₁ Bd hml0 hP hK
  obtain ⟨rfl, hZ, hh⟩ := hP
  have hx := Bd.exec
  have hby := Bd.bytes
  have hlk : meth.locks = false := BodyLoose.notSynchronized Bd
  have hml : c.maxLocals = 2 := hml0
  have hown : s.vm.findClass "com/example/borderline/borderline/BorderTableShiftedPinLaw" = some m.cls := findClass_of_methodNamed Bd.named
  have hnm := (name_of_methodNamed Bd.named Bd.method).1
  have X0 : Stand p l e ({ frames := 1, cells := 0, slots := 0, locals := 15 } : Room) s m #[(.ref a1), (.int (3 : Int32))] below meth c s₁ [] 0 0 := Stand.of_body Bd
  have e0 : s₁.heap = h0 := by rw [← hh, Bd.state]; rfl
  have N0 := Fr.nil n0
  have hret := Bd.returns
  show Goes p e below (fun o U' => ∃ v L, o = .returned v ∧ QInt (lg3 b0 b1 b2) h0 n0 v U'.heap L ∧ FrameEnd s o U' L ({ frames := 1, cells := 0, slots := 0, locals := 15 } : Room).cells ({ frames := 1, cells := 0, slots := 0, locals := 15 } : Room).slots) (s₁.setTop (entryFrame m #[(.ref a1), (.int (3 : Int32))] 2))
  refine Goes.step ?_ (fun _ k => castTop (ef_lo3 m a1 (3 : Int32)) k)
  show Goes p e below _ (sF s₁ m 0 #[rv a1, iv (3 : Int32)] [])
  refine Goes.step ?_ (fun _ k => XS.iloadN X0.here hx rfl (hb hby d10_0) rfl  k)
  show Goes p e below _ (sF s₁ m 1 #[rv a1, iv (3 : Int32)] [(.int (3 : Int32))])
  refine Goes.step ?_ (fun _ k => XS.iconst X0.here hx rfl (hb hby d10_1) k)
  show Goes p e below _ (sF s₁ m 2 #[rv a1, iv (3 : Int32)] [(.int (3 : Int32)), (.int (3 : Int32))])
  refine Goes.step ?_ (fun _ k => XS.icmpYes X0.here hx rfl (pc0 := 2) (pc' := 16) rfl (hb hby d10_2) rfl (flt (by decide : ¬ ((3 : Int32) < (3 : Int32)))).2.2.2 (by decide) (by decide) k)
  show Goes p e below _ (sF s₁ m 16 #[rv a1, iv (3 : Int32)] [])
  refine Goes.step ?_ (fun _ k => XS.iloadN X0.here hx rfl (hb hby d10_16) rfl  k)
  show Goes p e below _ (sF s₁ m 17 #[rv a1, iv (3 : Int32)] [(.int (3 : Int32))])
  refine Goes.step ?_ (fun _ k => XS.iconst X0.here hx rfl (hb hby d10_17) k)
  show Goes p e below _ (sF s₁ m 18 #[rv a1, iv (3 : Int32)] [(.int (2 : Int32)), (.int (3 : Int32))])
  refine Goes.step ?_ (fun _ k => XS.icmpNo X0.here hx rfl (hb hby d10_18) rfl (tlt (by decide : (2 : Int32) < (3 : Int32))).2.2.2 k)
  show Goes p e below _ (sF s₁ m 21 #[rv a1, iv (3 : Int32)] [])
  refine Goes.step ?_ (fun _ k => XS.aloadN X0.here hx rfl (hb hby d10_21) rfl rfl k)
  show Goes p e below _ (sF s₁ m 22 #[rv a1, iv (3 : Int32)] [(.ref a1)])
  refine Goes.step ?_ (fun _ k => XS.iloadN X0.here hx rfl (hb hby d10_22) rfl  k)
  show Goes p e below _ (sF s₁ m 23 #[rv a1, iv (3 : Int32)] [(.int (3 : Int32)), (.ref a1)])
  refine Goes.step ?_ (fun _ k => XS.iconst X0.here hx rfl (hb hby d10_23) k)
  show Goes p e below _ (sF s₁ m 24 #[rv a1, iv (3 : Int32)] [(.int (2 : Int32)), (.int (3 : Int32)), (.ref a1)])
  by_cases hB2_1 : b0 = b1 ∧ b1 = b2
  · obtain ⟨_, _, ⟨T2, L2, k2, n2⟩, -, X2, ⟨Lc2, hQ2, l2, y2, z2⟩, st2⟩ := Jvm.LawKit.callS X0 hx (y := (⟨"com/example/borderline/borderline/BorderTableShiftedPinLaw", "border", "([BII)Z"⟩ : MethodName)) hown (mvT hZ (hw _ (List.mem_of_getElem? (i := 52) rfl))) (mvT hZ (hw _ (List.mem_of_getElem? (i := 53) rfl))) (mvT hZ (hw _ (List.mem_of_getElem? (i := 50) rfl))) (mvT hZ (hw _ (List.mem_of_getElem? (i := 54) rfl))) (by decide) (backOf (W := 0) (rmBor3_2 l Z a0 hw [] a1 ka z pl b0 b1 b2 (1 : Int32) h0 n0 Z0 V_a1 hz0 hz1 hz2 hp0 hp1 hp2 (by rw [if_pos hB2_1])) hZ (hw _ (List.mem_of_getElem? (i := 54) rfl)) (hw _ (List.mem_of_getElem? (i := 50) rfl)) (by decide) (by decide)) (g := (mkF m 24 #[rv a1, iv (3 : Int32)] [(.int (2 : Int32)), (.int (3 : Int32)), (.ref a1)])) rfl (by rw [hml]; rfl) (argsL := [(.ref a1), (.int (3 : Int32)), (.int (2 : Int32))]) (rest := []) (lenOf pd__28_5bBII_29Z rfl) rfl (by show 2 * 0 + _ ≤ _; exact Nat.le_of_eq rfl) (hb hby d10_24) (fun _ _ => ⟨rfl, e0, (by decide : 0 + 0 ≤ _), (by decide : 0 + 0 ≤ _)⟩)
    dsimp only [Pt.U, Pt.locs, Pt.cells, Pt.slots] at X2 l2 y2 z2 st2 hQ2
    subst l2 y2 z2
    obtain ⟨rfl, N2q, e2⟩ := hQ2
    have N2 := Fr.app N0 N2q
    refine Goes.step ?_ st2
    show Goes p e below _ (sF T2 m 27 #[rv a1, iv (3 : Int32)] [(.int (1 : Int32))])
    refine Goes.step ?_ (fun _ k => XS.ifNo X2.here hx rfl (hb hby d10_27) rfl ((if0 _ _).trans (feq (by decide : ¬ ((1 : Int32) = (0 : Int32)))).1) k)
    show Goes p e below _ (sF T2 m 30 #[rv a1, iv (3 : Int32)] [])
    refine Goes.step ?_ (fun _ k => XS.iconst X2.here hx rfl (hb hby d10_30) k)
    show Goes p e below _ (sF T2 m 31 #[rv a1, iv (3 : Int32)] [(.int (2 : Int32))])
    refine own_out X2 hx hlk hret rfl (Or.inl ⟨rfl, by simp, _, rfl⟩) (hb hby d10_31) ?_ (by decide) (by decide)
    show QInt (lg3 b0 b1 b2) h0 n0 _ T2.heap _
    rw [e2]
    exact ⟨by unfold lg3; rw [if_pos hB2_1], N2, rfl⟩
  · obtain ⟨_, _, ⟨T3, L3, k3, n3⟩, -, X3, ⟨Lc3, hQ3, l3, y3, z3⟩, st3⟩ := Jvm.LawKit.callS X0 hx (y := (⟨"com/example/borderline/borderline/BorderTableShiftedPinLaw", "border", "([BII)Z"⟩ : MethodName)) hown (mvT hZ (hw _ (List.mem_of_getElem? (i := 52) rfl))) (mvT hZ (hw _ (List.mem_of_getElem? (i := 53) rfl))) (mvT hZ (hw _ (List.mem_of_getElem? (i := 50) rfl))) (mvT hZ (hw _ (List.mem_of_getElem? (i := 54) rfl))) (by decide) (backOf (W := 0) (rmBor3_2 l Z a0 hw [] a1 ka z pl b0 b1 b2 (0 : Int32) h0 n0 Z0 V_a1 hz0 hz1 hz2 hp0 hp1 hp2 (by rw [if_neg hB2_1])) hZ (hw _ (List.mem_of_getElem? (i := 54) rfl)) (hw _ (List.mem_of_getElem? (i := 50) rfl)) (by decide) (by decide)) (g := (mkF m 24 #[rv a1, iv (3 : Int32)] [(.int (2 : Int32)), (.int (3 : Int32)), (.ref a1)])) rfl (by rw [hml]; rfl) (argsL := [(.ref a1), (.int (3 : Int32)), (.int (2 : Int32))]) (rest := []) (lenOf pd__28_5bBII_29Z rfl) rfl (by show 2 * 0 + _ ≤ _; exact Nat.le_of_eq rfl) (hb hby d10_24) (fun _ _ => ⟨rfl, e0, (by decide : 0 + 0 ≤ _), (by decide : 0 + 0 ≤ _)⟩)
    dsimp only [Pt.U, Pt.locs, Pt.cells, Pt.slots] at X3 l3 y3 z3 st3 hQ3
    subst l3 y3 z3
    obtain ⟨rfl, N3q, e3⟩ := hQ3
    have N3 := Fr.app N0 N3q
    refine Goes.step ?_ st3
    show Goes p e below _ (sF T3 m 27 #[rv a1, iv (3 : Int32)] [(.int (0 : Int32))])
    refine Goes.step ?_ (fun _ k => XS.ifYes X3.here hx rfl (pc0 := 27) (pc' := 32) rfl (hb hby d10_27) rfl ((if0 _ _).trans (teq (by decide : (0 : Int32) = (0 : Int32))).1) (by decide) (by decide) k)
    show Goes p e below _ (sF T3 m 32 #[rv a1, iv (3 : Int32)] [])
    refine Goes.step ?_ (fun _ k => XS.iloadN X3.here hx rfl (hb hby d10_32) rfl  k)
    show Goes p e below _ (sF T3 m 33 #[rv a1, iv (3 : Int32)] [(.int (3 : Int32))])
    refine Goes.step ?_ (fun _ k => XS.iconst X3.here hx rfl (hb hby d10_33) k)
    show Goes p e below _ (sF T3 m 34 #[rv a1, iv (3 : Int32)] [(.int (1 : Int32)), (.int (3 : Int32))])
    refine Goes.step ?_ (fun _ k => XS.icmpNo X3.here hx rfl (hb hby d10_34) rfl (tlt (by decide : (1 : Int32) < (3 : Int32))).2.2.2 k)
    show Goes p e below _ (sF T3 m 37 #[rv a1, iv (3 : Int32)] [])
    refine Goes.step ?_ (fun _ k => XS.aloadN X3.here hx rfl (hb hby d10_37) rfl rfl k)
    show Goes p e below _ (sF T3 m 38 #[rv a1, iv (3 : Int32)] [(.ref a1)])
    refine Goes.step ?_ (fun _ k => XS.iloadN X3.here hx rfl (hb hby d10_38) rfl  k)
    show Goes p e below _ (sF T3 m 39 #[rv a1, iv (3 : Int32)] [(.int (3 : Int32)), (.ref a1)])
    refine Goes.step ?_ (fun _ k => XS.iconst X3.here hx rfl (hb hby d10_39) k)
    show Goes p e below _ (sF T3 m 40 #[rv a1, iv (3 : Int32)] [(.int (1 : Int32)), (.int (3 : Int32)), (.ref a1)])
    by_cases hB1_4 : b0 = b2
    · obtain ⟨_, _, ⟨T5, L5, k5, n5⟩, -, X5, ⟨Lc5, hQ5, l5, y5, z5⟩, st5⟩ := Jvm.LawKit.callS X3 hx (y := (⟨"com/example/borderline/borderline/BorderTableShiftedPinLaw", "border", "([BII)Z"⟩ : MethodName)) hown (mvT hZ (hw _ (List.mem_of_getElem? (i := 52) rfl))) (mvT hZ (hw _ (List.mem_of_getElem? (i := 53) rfl))) (mvT hZ (hw _ (List.mem_of_getElem? (i := 50) rfl))) (mvT hZ (hw _ (List.mem_of_getElem? (i := 54) rfl))) (by decide) (backOf (W := 0) (rmBor3_1 l Z a0 hw [] a1 ka z pl b0 b1 b2 (1 : Int32) h0 n0 Z0 V_a1 hz0 hz1 hz2 hp0 hp1 hp2 (by rw [if_pos hB1_4])) hZ (hw _ (List.mem_of_getElem? (i := 54) rfl)) (hw _ (List.mem_of_getElem? (i := 50) rfl)) (by decide) (by decide)) (g := (mkF m 40 #[rv a1, iv (3 : Int32)] [(.int (1 : Int32)), (.int (3 : Int32)), (.ref a1)])) rfl (by rw [hml]; rfl) (argsL := [(.ref a1), (.int (3 : Int32)), (.int (1 : Int32))]) (rest := []) (lenOf pd__28_5bBII_29Z rfl) rfl (by show 2 * 0 + _ ≤ _; exact Nat.le_of_eq rfl) (hb hby d10_40) (fun _ _ => ⟨rfl, e3, (by decide : 0 + 0 ≤ _), (by decide : 0 + 0 ≤ _)⟩)
      dsimp only [Pt.U, Pt.locs, Pt.cells, Pt.slots] at X5 l5 y5 z5 st5 hQ5
      subst l5 y5 z5
      obtain ⟨rfl, N5q, e5⟩ := hQ5
      have N5 := Fr.app N3 N5q
      refine Goes.step ?_ st5
      show Goes p e below _ (sF T5 m 43 #[rv a1, iv (3 : Int32)] [(.int (1 : Int32))])
      refine Goes.step ?_ (fun _ k => XS.ifNo X5.here hx rfl (hb hby d10_43) rfl ((if0 _ _).trans (feq (by decide : ¬ ((1 : Int32) = (0 : Int32)))).1) k)
      show Goes p e below _ (sF T5 m 46 #[rv a1, iv (3 : Int32)] [])
      refine Goes.step ?_ (fun _ k => XS.iconst X5.here hx rfl (hb hby d10_46) k)
      show Goes p e below _ (sF T5 m 47 #[rv a1, iv (3 : Int32)] [(.int (1 : Int32))])
      refine own_out X5 hx hlk hret rfl (Or.inl ⟨rfl, by simp, _, rfl⟩) (hb hby d10_47) ?_ (by decide) (by decide)
      show QInt (lg3 b0 b1 b2) h0 n0 _ T5.heap _
      rw [e5]
      exact ⟨by unfold lg3; rw [if_neg hB2_1, if_pos hB1_4], N5, rfl⟩
    · obtain ⟨_, _, ⟨T6, L6, k6, n6⟩, -, X6, ⟨Lc6, hQ6, l6, y6, z6⟩, st6⟩ := Jvm.LawKit.callS X3 hx (y := (⟨"com/example/borderline/borderline/BorderTableShiftedPinLaw", "border", "([BII)Z"⟩ : MethodName)) hown (mvT hZ (hw _ (List.mem_of_getElem? (i := 52) rfl))) (mvT hZ (hw _ (List.mem_of_getElem? (i := 53) rfl))) (mvT hZ (hw _ (List.mem_of_getElem? (i := 50) rfl))) (mvT hZ (hw _ (List.mem_of_getElem? (i := 54) rfl))) (by decide) (backOf (W := 0) (rmBor3_1 l Z a0 hw [] a1 ka z pl b0 b1 b2 (0 : Int32) h0 n0 Z0 V_a1 hz0 hz1 hz2 hp0 hp1 hp2 (by rw [if_neg hB1_4])) hZ (hw _ (List.mem_of_getElem? (i := 54) rfl)) (hw _ (List.mem_of_getElem? (i := 50) rfl)) (by decide) (by decide)) (g := (mkF m 40 #[rv a1, iv (3 : Int32)] [(.int (1 : Int32)), (.int (3 : Int32)), (.ref a1)])) rfl (by rw [hml]; rfl) (argsL := [(.ref a1), (.int (3 : Int32)), (.int (1 : Int32))]) (rest := []) (lenOf pd__28_5bBII_29Z rfl) rfl (by show 2 * 0 + _ ≤ _; exact Nat.le_of_eq rfl) (hb hby d10_40) (fun _ _ => ⟨rfl, e3, (by decide : 0 + 0 ≤ _), (by decide : 0 + 0 ≤ _)⟩)
      dsimp only [Pt.U, Pt.locs, Pt.cells, Pt.slots] at X6 l6 y6 z6 st6 hQ6
      subst l6 y6 z6
      obtain ⟨rfl, N6q, e6⟩ := hQ6
      have N6 := Fr.app N3 N6q
      refine Goes.step ?_ st6
      show Goes p e below _ (sF T6 m 43 #[rv a1, iv (3 : Int32)] [(.int (0 : Int32))])
      refine Goes.step ?_ (fun _ k => XS.ifYes X6.here hx rfl (pc0 := 43) (pc' := 48) rfl (hb hby d10_43) rfl ((if0 _ _).trans (teq (by decide : (0 : Int32) = (0 : Int32))).1) (by decide) (by decide) k)
      show Goes p e below _ (sF T6 m 48 #[rv a1, iv (3 : Int32)] [])
      refine Goes.step ?_ (fun _ k => XS.iconst X6.here hx rfl (hb hby d10_48) k)
      show Goes p e below _ (sF T6 m 49 #[rv a1, iv (3 : Int32)] [(.int (0 : Int32))])
      refine own_out X6 hx hlk hret rfl (Or.inl ⟨rfl, by simp, _, rfl⟩) (hb hby d10_49) ?_ (by decide) (by decide)
      show QInt (lg3 b0 b1 b2) h0 n0 _ T6.heap _
      rw [e6]
      exact ⟨by unfold lg3; rw [if_neg hB2_1, if_neg hB1_4], N6, rfl⟩
theorem ef_lo4 (m : MethodId) (x0 : Addr) (x1 : Int32) : entryFrame m #[(.ref x0), (.int x1)] 2 = mkF m 0 #[rv x0, iv x1] [] := by first | (simp [entryFrame, mkF, argsToLocals, Value.category]; done) | rfl
theorem d10_5 : decode method_3_code 5 = .ok (.aload_n 0, 1) := by decide +kernel
theorem d10_6 : decode method_3_code 6 = .ok (.iload_n 1, 1) := by decide +kernel
theorem d10_7 : decode method_3_code 7 = .ok (.iconst 3, 1) := by decide +kernel
theorem d10_8 : decode method_3_code 8 = .ok (.invokestatic 7, 3) := by decide +kernel
theorem d10_11 : decode method_3_code 11 = .ok (.ifCond .eq 5, 3) := by decide +kernel
theorem d10_14 : decode method_3_code 14 = .ok (.iconst 3, 1) := by decide +kernel
theorem d10_15 : decode method_3_code 15 = .ok (.ireturn, 1) := by decide +kernel
set_option maxRecDepth 65536 in
set_option maxHeartbeats 40000000 in
theorem rmLo4 (l : Launch) (Z : State) (a0 : Array Value) (hw : ∀ d ∈ tables_1, d.before a0 Z = true) (ws : List Jvm.Cond) (a1 : Addr) (ka : ClassId) (z : Int32) (pl : List Value) (b0 : Int32) (b1 : Int32) (b2 : Int32) (b3 : Int32) (h0 : Heap) (n0 : Nat) (Z0 : n0 ≤ h0.size) (V_a1 : Arv Z h0 a1 ka .byte z pl (.int (0 : Int32))) (hz0 : ¬ (0 : Int32) < 0 ∧ (0 : Int32) < z) (hz1 : ¬ (1 : Int32) < 0 ∧ (1 : Int32) < z) (hz2 : ¬ (2 : Int32) < 0 ∧ (2 : Int32) < z) (hz3 : ¬ (3 : Int32) < 0 ∧ (3 : Int32) < z) (hp0 : pl.getD ((0 : Int32)).toNatClampNeg (.int (0 : Int32)) = .int b0) (hp1 : pl.getD ((1 : Int32)).toNatClampNeg (.int (0 : Int32)) = .int b1) (hp2 : pl.getD ((2 : Int32)).toNatClampNeg (.int (0 : Int32)) = .int b2) (hp3 : pl.getD ((3 : Int32)).toNatClampNeg (.int (0 : Int32)) = .int b3) :
    MetFree l (⟨"com/example/borderline/borderline/BorderTableShiftedPinLaw", "longest", "([BI)I"⟩ : MethodName) (head1 (Jvm.Cond.code (⟨"com/example/borderline/borderline/BorderTableShiftedPinLaw", "longest", "([BI)I"⟩ : MethodName) method_3_code 2 (some .int) :: ws) ({ frames := 1, cells := 0, slots := 0, locals := 15 } : Room)) (fun a U => a = #[(.ref a1), (.int (4 : Int32))] ∧ Z.Warmed39 U.vm ∧ U.heap = h0) (fun _ _ _ _ _ => True) (fun _ U o U' => ∃ v L, o = .returned v ∧ QInt (lg4 b0 b1 b2 b3) h0 n0 v U'.heap L ∧ FrameEnd U o U' L ({ frames := 1, cells := 0, slots := 0, locals := 15 } : Room).cells ({ frames := 1, cells := 0, slots := 0, locals := 15 } : Room).slots) := by
  refine MetFree.of_bodySF (plainFor_of_name pn_com_example_borderline_borderline_BorderTableShiftedPinLaw) hisR ?_
  intro p e s m args below meth c s₁ Bd hml0 hP hK
  obtain ⟨rfl, hZ, hh⟩ := hP
  have hx := Bd.exec
  have hby := Bd.bytes
  have hlk : meth.locks = false := BodyLoose.notSynchronized Bd
  have hml : c.maxLocals = 2 := hml0
  have hown : s.vm.findClass "com/example/borderline/borderline/BorderTableShiftedPinLaw" = some m.cls := findClass_of_methodNamed Bd.named
  have hnm := (name_of_methodNamed Bd.named Bd.method).1
  have X0 : Stand p l e ({ frames := 1, cells := 0, slots := 0, locals := 15 } : Room) s m #[(.ref a1), (.int (4 : Int32))] below meth c s₁ [] 0 0 := Stand.of_body Bd
  have e0 : s₁.heap = h0 := by rw [← hh, Bd.state]; rfl
  have N0 := Fr.nil n0
  have hret := Bd.returns
  show Goes p e below (fun o U' => ∃ v L, o = .returned v ∧ QInt (lg4 b0 b1 b2 b3) h0 n0 v U'.heap L ∧ FrameEnd s o U' L ({ frames := 1, cells := 0, slots := 0, locals := 15 } : Room).cells ({ frames := 1, cells := 0, slots := 0, locals := 15 } : Room).slots) (s₁.setTop (entryFrame m #[(.ref a1), (.int (4 : Int32))] 2))
  refine Goes.step ?_ (fun _ k => castTop (ef_lo4 m a1 (4 : Int32)) k)
  show Goes p e below _ (sF s₁ m 0 #[rv a1, iv (4 : Int32)] [])
  refine Goes.step ?_ (fun _ k => XS.iloadN X0.here hx rfl (hb hby d10_0) rfl  k)
  show Goes p e below _ (sF s₁ m 1 #[rv a1, iv (4 : Int32)] [(.int (4 : Int32))])
  refine Goes.step ?_ (fun _ k => XS.iconst X0.here hx rfl (hb hby d10_1) k)
  show Goes p e below _ (sF s₁ m 2 #[rv a1, iv (4 : Int32)] [(.int (3 : Int32)), (.int (4 : Int32))])
  refine Goes.step ?_ (fun _ k => XS.icmpNo X0.here hx rfl (hb hby d10_2) rfl (tlt (by decide : (3 : Int32) < (4 : Int32))).2.2.2 k)
  show Goes p e below _ (sF s₁ m 5 #[rv a1, iv (4 : Int32)] [])
  refine Goes.step ?_ (fun _ k => XS.aloadN X0.here hx rfl (hb hby d10_5) rfl rfl k)
  show Goes p e below _ (sF s₁ m 6 #[rv a1, iv (4 : Int32)] [(.ref a1)])
  refine Goes.step ?_ (fun _ k => XS.iloadN X0.here hx rfl (hb hby d10_6) rfl  k)
  show Goes p e below _ (sF s₁ m 7 #[rv a1, iv (4 : Int32)] [(.int (4 : Int32)), (.ref a1)])
  refine Goes.step ?_ (fun _ k => XS.iconst X0.here hx rfl (hb hby d10_7) k)
  show Goes p e below _ (sF s₁ m 8 #[rv a1, iv (4 : Int32)] [(.int (3 : Int32)), (.int (4 : Int32)), (.ref a1)])
  by_cases hB3_1 : b0 = b1 ∧ b1 = b2 ∧ b2 = b3
  · obtain ⟨_, _, ⟨T2, L2, k2, n2⟩, -, X2, ⟨Lc2, hQ2, l2, y2, z2⟩, st2⟩ := Jvm.LawKit.callS X0 hx (y := (⟨"com/example/borderline/borderline/BorderTableShiftedPinLaw", "border", "([BII)Z"⟩ : MethodName)) hown (mvT hZ (hw _ (List.mem_of_getElem? (i := 52) rfl))) (mvT hZ (hw _ (List.mem_of_getElem? (i := 53) rfl))) (mvT hZ (hw _ (List.mem_of_getElem? (i := 50) rfl))) (mvT hZ (hw _ (List.mem_of_getElem? (i := 54) rfl))) (by decide) (backOf (W := 0) (rmBor4_3 l Z a0 hw [] a1 ka z pl b0 b1 b2 b3 (1 : Int32) h0 n0 Z0 V_a1 hz0 hz1 hz2 hz3 hp0 hp1 hp2 hp3 (by rw [if_pos hB3_1])) hZ (hw _ (List.mem_of_getElem? (i := 54) rfl)) (hw _ (List.mem_of_getElem? (i := 50) rfl)) (by decide) (by decide)) (g := (mkF m 8 #[rv a1, iv (4 : Int32)] [(.int (3 : Int32)), (.int (4 : Int32)), (.ref a1)])) rfl (by rw [hml]; rfl) (argsL := [(.ref a1), (.int (4 : Int32)), (.int (3 : Int32))]) (rest := []) (lenOf pd__28_5bBII_29Z rfl) rfl (by show 2 * 0 + _ ≤ _; exact Nat.le_of_eq rfl) (hb hby d10_8) (fun _ _ => ⟨rfl, e0, (by decide : 0 + 0 ≤ _), (by decide : 0 + 0 ≤ _)⟩)
    dsimp only [Pt.U, Pt.locs, Pt.cells, Pt.slots] at X2 l2 y2 z2 st2 hQ2
    subst l2 y2 z2
    obtain ⟨rfl, N2q, e2⟩ := hQ2
    have N2 := Fr.app N0 N2q
    refine Goes.step ?_ st2
    show Goes p e below _ (sF T2 m 11 #[rv a1, iv (4 : Int32)] [(.int (1 : Int32))])
    refine Goes.step ?_ (fun _ k => XS.ifNo X2.here hx rfl (hb hby d10_11) rfl ((if0 _ _).trans (feq (by decide : ¬ ((1 : Int32) = (0 : Int32)))).1) k)
    show Goes p e below _ (sF T2 m 14 #[rv a1, iv (4 : Int32)] [])
    refine Goes.step ?_ (fun _ k => XS.iconst X2.here hx rfl (hb hby d10_14) k)
    show Goes p e below _ (sF T2 m 15 #[rv a1, iv (4 : Int32)] [(.int (3 : Int32))])
    refine own_out X2 hx hlk hret rfl (Or.inl ⟨rfl, by simp, _, rfl⟩) (hb hby d10_15) ?_ (by decide) (by decide)
    show QInt (lg4 b0 b1 b2 b3) h0 n0 _ T2.heap _
    rw [e2]
    exact ⟨by unfold lg4; rw [if_pos hB3_1], N2, rfl⟩
  · obtain ⟨_, _, ⟨T3, L3, k3, n3⟩, -, X3, ⟨Lc3, hQ3, l3, y3, z3⟩, st3⟩ := Jvm.LawKit.callS X0 hx (y := (⟨"com/example/borderline/borderline/BorderTableShiftedPinLaw", "border", "([BII)Z"⟩ : MethodName)) hown (mvT hZ (hw _ (List.mem_of_getElem? (i := 52) rfl))) (mvT hZ (hw _ (List.mem_of_getElem? (i := 53) rfl))) (mvT hZ (hw _ (List.mem_of_getElem? (i := 50) rfl))) (mvT hZ (hw _ (List.mem_of_getElem? (i := 54) rfl))) (by decide) (backOf (W := 0) (rmBor4_3 l Z a0 hw [] a1 ka z pl b0 b1 b2 b3 (0 : Int32) h0 n0 Z0 V_a1 hz0 hz1 hz2 hz3 hp0 hp1 hp2 hp3 (by rw [if_neg hB3_1])) hZ (hw _ (List.mem_of_getElem? (i := 54) rfl)) (hw _ (List.mem_of_getElem? (i := 50) rfl)) (by decide) (by decide)) (g := (mkF m 8 #[rv a1, iv (4 : Int32)] [(.int (3 : Int32)), (.int (4 : Int32)), (.ref a1)])) rfl (by rw [hml]; rfl) (argsL := [(.ref a1), (.int (4 : Int32)), (.int (3 : Int32))]) (rest := []) (lenOf pd__28_5bBII_29Z rfl) rfl (by show 2 * 0 + _ ≤ _; exact Nat.le_of_eq rfl) (hb hby d10_8) (fun _ _ => ⟨rfl, e0, (by decide : 0 + 0 ≤ _), (by decide : 0 + 0 ≤ _)⟩)
    dsimp only [Pt.U, Pt.locs, Pt.cells, Pt.slots] at X3 l3 y3 z3 st3 hQ3
    subst l3 y3 z3
    obtain ⟨rfl, N3q, e3⟩ := hQ3
    have N3 := Fr.app N0 N3q
    refine Goes.step ?_ st3
    show Goes p e below _ (sF T3 m 11 #[rv a1, iv (4 : Int32)] [(.int (0 : Int32))])
    refine Goes.step ?_ (fun _ k => XS.ifYes X3.here hx rfl (pc0 := 11) (pc' := 16) rfl (hb hby d10_11) rfl ((if0 _ _).trans (teq (by decide : (0 : Int32) = (0 : Int32))).1) (by decide) (by decide) k)
    show Goes p e below _ (sF T3 m 16 #[rv a1, iv (4 : Int32)] [])
    refine Goes.step ?_ (fun _ k => XS.iloadN X3.here hx rfl (hb hby d10_16) rfl  k)
    show Goes p e below _ (sF T3 m 17 #[rv a1, iv (4 : Int32)] [(.int (4 : Int32))])
    refine Goes.step ?_ (fun _ k => XS.iconst X3.here hx rfl (hb hby d10_17) k)
    show Goes p e below _ (sF T3 m 18 #[rv a1, iv (4 : Int32)] [(.int (2 : Int32)), (.int (4 : Int32))])
    refine Goes.step ?_ (fun _ k => XS.icmpNo X3.here hx rfl (hb hby d10_18) rfl (tlt (by decide : (2 : Int32) < (4 : Int32))).2.2.2 k)
    show Goes p e below _ (sF T3 m 21 #[rv a1, iv (4 : Int32)] [])
    refine Goes.step ?_ (fun _ k => XS.aloadN X3.here hx rfl (hb hby d10_21) rfl rfl k)
    show Goes p e below _ (sF T3 m 22 #[rv a1, iv (4 : Int32)] [(.ref a1)])
    refine Goes.step ?_ (fun _ k => XS.iloadN X3.here hx rfl (hb hby d10_22) rfl  k)
    show Goes p e below _ (sF T3 m 23 #[rv a1, iv (4 : Int32)] [(.int (4 : Int32)), (.ref a1)])
    refine Goes.step ?_ (fun _ k => XS.iconst X3.here hx rfl (hb hby d10_23) k)
    show Goes p e below _ (sF T3 m 24 #[rv a1, iv (4 : Int32)] [(.int (2 : Int32)), (.int (4 : Int32)), (.ref a1)])
    by_cases hB2_4 : b0 = b2 ∧ b1 = b3
    · obtain ⟨_, _, ⟨T5, L5, k5, n5⟩, -, X5, ⟨Lc5, hQ5, l5, y5, z5⟩, st5⟩ := Jvm.LawKit.callS X3 hx (y := (⟨"com/example/borderline/borderline/BorderTableShiftedPinLaw", "border", "([BII)Z"⟩ : MethodName)) hown (mvT hZ (hw _ (List.mem_of_getElem? (i := 52) rfl))) (mvT hZ (hw _ (List.mem_of_getElem? (i := 53) rfl))) (mvT hZ (hw _ (List.mem_of_getElem? (i := 50) rfl))) (mvT hZ (hw _ (List.mem_of_getElem? (i := 54) rfl))) (by decide) (backOf (W := 0) (rmBor4_2 l Z a0 hw [] a1 ka z pl b0 b1 b2 b3 (1 : Int32) h0 n0 Z0 V_a1 hz0 hz1 hz2 hz3 hp0 hp1 hp2 hp3 (by rw [if_pos hB2_4])) hZ (hw _ (List.mem_of_getElem? (i := 54) rfl)) (hw _ (List.mem_of_getElem? (i := 50) rfl)) (by decide) (by decide)) (g := (mkF m 24 #[rv a1, iv (4 : Int32)] [(.int (2 : Int32)), (.int (4 : Int32)), (.ref a1)])) rfl (by rw [hml]; rfl) (argsL := [(.ref a1), (.int (4 : Int32)), (.int (2 : Int32))]) (rest := []) (lenOf pd__28_5bBII_29Z rfl) rfl (by show 2 * 0 + _ ≤ _; exact Nat.le_of_eq rfl) (hb hby d10_24) (fun _ _ => ⟨rfl, e3, (by decide : 0 + 0 ≤ _), (by decide : 0 + 0 ≤ _)⟩)
      dsimp only [Pt.U, Pt.locs, Pt.cells, Pt.slots] at X5 l5 y5 z5 st5 hQ5
      subst l5 y5 z5
      obtain ⟨rfl, N5q, e5⟩ := hQ5
      have N5 := Fr.app N3 N5q
      refine Goes.step ?_ st5
      show Goes p e below _ (sF T5 m 27 #[rv a1, iv (4 : Int32)] [(.int (1 : Int32))])
      refine Goes.step ?_ (fun _ k => XS.ifNo X5.here hx rfl (hb hby d10_27) rfl ((if0 _ _).trans (feq (by decide : ¬ ((1 : Int32) = (0 : Int32)))).1) k)
      show Goes p e below _ (sF T5 m 30 #[rv a1, iv (4 : Int32)] [])
      refine Goes.step ?_ (fun _ k => XS.iconst X5.here hx rfl (hb hby d10_30) k)
      show Goes p e below _ (sF T5 m 31 #[rv a1, iv (4 : Int32)] [(.int (2 : Int32))])
      refine own_out X5 hx hlk hret rfl (Or.inl ⟨rfl, by simp, _, rfl⟩) (hb hby d10_31) ?_ (by decide) (by decide)
      show QInt (lg4 b0 b1 b2 b3) h0 n0 _ T5.heap _
      rw [e5]
      exact ⟨by unfold lg4; rw [if_neg hB3_1, if_pos hB2_4], N5, rfl⟩
    · obtain ⟨_, _, ⟨T6, L6, k6, n6⟩, -, X6, ⟨Lc6, hQ6, l6, y6, z6⟩, st6⟩ := Jvm.LawKit.callS X3 hx (y := (⟨"com/example/borderline/borderline/BorderTableShiftedPinLaw", "border", "([BII)Z"⟩ : MethodName)) hown (mvT hZ (hw _ (List.mem_of_getElem? (i := 52) rfl))) (mvT hZ (hw _ (List.mem_of_getElem? (i := 53) rfl))) (mvT hZ (hw _ (List.mem_of_getElem? (i := 50) rfl))) (mvT hZ (hw _ (List.mem_of_getElem? (i := 54) rfl))) (by decide) (backOf (W := 0) (rmBor4_2 l Z a0 hw [] a1 ka z pl b0 b1 b2 b3 (0 : Int32) h0 n0 Z0 V_a1 hz0 hz1 hz2 hz3 hp0 hp1 hp2 hp3 (by rw [if_neg hB2_4])) hZ (hw _ (List.mem_of_getElem? (i := 54) rfl)) (hw _ (List.mem_of_getElem? (i := 50) rfl)) (by decide) (by decide)) (g := (mkF m 24 #[rv a1, iv (4 : Int32)] [(.int (2 : Int32)), (.int (4 : Int32)), (.ref a1)])) rfl (by rw [hml]; rfl) (argsL := [(.ref a1), (.int (4 : Int32)), (.int (2 : Int32))]) (rest := []) (lenOf pd__28_5bBII_29Z rfl) rfl (by show 2 * 0 + _ ≤ _; exact Nat.le_of_eq rfl) (hb hby d10_24) (fun _ _ => ⟨rfl, e3, (by decide : 0 + 0 ≤ _), (by decide : 0 + 0 ≤ _)⟩)
      dsimp only [Pt.U, Pt.locs, Pt.cells, Pt.slots] at X6 l6 y6 z6 st6 hQ6
      subst l6 y6 z6
      obtain ⟨rfl, N6q, e6⟩ := hQ6
      have N6 := Fr.app N3 N6q
      refine Goes.step ?_ st6
      show Goes p e below _ (sF T6 m 27 #[rv a1, iv (4 : Int32)] [(.int (0 : Int32))])
      refine Goes.step ?_ (fun _ k => XS.ifYes X6.here hx rfl (pc0 := 27) (pc' := 32) rfl (hb hby d10_27) rfl ((if0 _ _).trans (teq (by decide : (0 : Int32) = (0 : Int32))).1) (by decide) (by decide) k)
      show Goes p e below _ (sF T6 m 32 #[rv a1, iv (4 : Int32)] [])
      refine Goes.step ?_ (fun _ k => XS.iloadN X6.here hx rfl (hb hby d10_32) rfl  k)
      show Goes p e below _ (sF T6 m 33 #[rv a1, iv (4 : Int32)] [(.int (4 : Int32))])
      refine Goes.step ?_ (fun _ k => XS.iconst X6.here hx rfl (hb hby d10_33) k)
      show Goes p e below _ (sF T6 m 34 #[rv a1, iv (4 : Int32)] [(.int (1 : Int32)), (.int (4 : Int32))])
      refine Goes.step ?_ (fun _ k => XS.icmpNo X6.here hx rfl (hb hby d10_34) rfl (tlt (by decide : (1 : Int32) < (4 : Int32))).2.2.2 k)
      show Goes p e below _ (sF T6 m 37 #[rv a1, iv (4 : Int32)] [])
      refine Goes.step ?_ (fun _ k => XS.aloadN X6.here hx rfl (hb hby d10_37) rfl rfl k)
      show Goes p e below _ (sF T6 m 38 #[rv a1, iv (4 : Int32)] [(.ref a1)])
      refine Goes.step ?_ (fun _ k => XS.iloadN X6.here hx rfl (hb hby d10_38) rfl  k)
      show Goes p e below _ (sF T6 m 39 #[rv a1, iv (4 : Int32)] [(.int (4 : Int32)), (.ref a1)])
      refine Goes.step ?_ (fun _ k => XS.iconst X6.here hx rfl (hb hby d10_39) k)
      show Goes p e below _ (sF T6 m 40 #[rv a1, iv (4 : Int32)] [(.int (1 : Int32)), (.int (4 : Int32)), (.ref a1)])
      by_cases hB1_7 : b0 = b3
      · obtain ⟨_, _, ⟨T8, L8, k8, n8⟩, -, X8, ⟨Lc8, hQ8, l8, y8, z8⟩, st8⟩ := Jvm.LawKit.callS X6 hx (y := (⟨"com/example/borderline/borderline/BorderTableShiftedPinLaw", "border", "([BII)Z"⟩ : MethodName)) hown (mvT hZ (hw _ (List.mem_of_getElem? (i := 52) rfl))) (mvT hZ (hw _ (List.mem_of_getElem? (i := 53) rfl))) (mvT hZ (hw _ (List.mem_of_getElem? (i := 50) rfl))) (mvT hZ (hw _ (List.mem_of_getElem? (i := 54) rfl))) (by decide) (backOf (W := 0) (rmBor4_1 l Z a0 hw [] a1 ka z pl b0 b1 b2 b3 (1 : Int32) h0 n0 Z0 V_a1 hz0 hz1 hz2 hz3 hp0 hp1 hp2 hp3 (by rw [if_pos hB1_7])) hZ (hw _ (List.mem_of_getElem? (i := 54) rfl)) (hw _ (List.mem_of_getElem? (i := 50) rfl)) (by decide) (by decide)) (g := (mkF m 40 #[rv a1, iv (4 : Int32)] [(.int (1 : Int32)), (.int (4 : Int32)), (.ref a1)])) rfl (by rw [hml]; rfl) (argsL := [(.ref a1), (.int (4 : Int32)), (.int (1 : Int32))]) (rest := []) (lenOf pd__28_5bBII_29Z rfl) rfl (by show 2 * 0 + _ ≤ _; exact Nat.le_of_eq rfl) (hb hby d10_40) (fun _ _ => ⟨rfl, e6, (by decide : 0 + 0 ≤ _), (by decide : 0 + 0 ≤ _)⟩)
        dsimp only [Pt.U, Pt.locs, Pt.cells, Pt.slots] at X8 l8 y8 z8 st8 hQ8
        subst l8 y8 z8
        obtain ⟨rfl, N8q, e8⟩ := hQ8
        have N8 := Fr.app N6 N8q
        refine Goes.step ?_ st8
        show Goes p e below _ (sF T8 m 43 #[rv a1, iv (4 : Int32)] [(.int (1 : Int32))])
        refine Goes.step ?_ (fun _ k => XS.ifNo X8.here hx rfl (hb hby d10_43) rfl ((if0 _ _).trans (feq (by decide : ¬ ((1 : Int32) = (0 : Int32)))).1) k)
        show Goes p e below _ (sF T8 m 46 #[rv a1, iv (4 : Int32)] [])
        refine Goes.step ?_ (fun _ k => XS.iconst X8.here hx rfl (hb hby d10_46) k)
        show Goes p e below _ (sF T8 m 47 #[rv a1, iv (4 : Int32)] [(.int (1 : Int32))])
        refine own_out X8 hx hlk hret rfl (Or.inl ⟨rfl, by simp, _, rfl⟩) (hb hby d10_47) ?_ (by decide) (by decide)
        show QInt (lg4 b0 b1 b2 b3) h0 n0 _ T8.heap _
        rw [e8]
        exact ⟨by unfold lg4; rw [if_neg hB3_1, if_neg hB2_4, if_pos hB1_7], N8, rfl⟩
      · obtain ⟨_, _, ⟨T9, L9, k9, n9⟩, -, X9, ⟨Lc9, hQ9, l9, y9, z9⟩, st9⟩ := Jvm.LawKit.callS X6 hx (y := (⟨"com/example/borderline/borderline/BorderTableShiftedPinLaw", "border", "([BII)Z"⟩ : MethodName)) hown (mvT hZ (hw _ (List.mem_of_getElem? (i := 52) rfl))) (mvT hZ (hw _ (List.mem_of_getElem? (i := 53) rfl))) (mvT hZ (hw _ (List.mem_of_getElem? (i := 50) rfl))) (mvT hZ (hw _ (List.mem_of_getElem? (i := 54) rfl))) (by decide) (backOf (W := 0) (rmBor4_1 l Z a0 hw [] a1 ka z pl b0 b1 b2 b3 (0 : Int32) h0 n0 Z0 V_a1 hz0 hz1 hz2 hz3 hp0 hp1 hp2 hp3 (by rw [if_neg hB1_7])) hZ (hw _ (List.mem_of_getElem? (i := 54) rfl)) (hw _ (List.mem_of_getElem? (i := 50) rfl)) (by decide) (by decide)) (g := (mkF m 40 #[rv a1, iv (4 : Int32)] [(.int (1 : Int32)), (.int (4 : Int32)), (.ref a1)])) rfl (by rw [hml]; rfl) (argsL := [(.ref a1), (.int (4 : Int32)), (.int (1 : Int32))]) (rest := []) (lenOf pd__28_5bBII_29Z rfl) rfl (by show 2 * 0 + _ ≤ _; exact Nat.le_of_eq rfl) (hb hby d10_40) (fun _ _ => ⟨rfl, e6, (by decide : 0 + 0 ≤ _), (by decide : 0 + 0 ≤ _)⟩)
        dsimp only [Pt.U, Pt.locs, Pt.cells, Pt.slots] at X9 l9 y9 z9 st9 hQ9
        subst l9 y9 z9
        obtain ⟨rfl, N9q, e9⟩ := hQ9
        have N9 := Fr.app N6 N9q
        refine Goes.step ?_ st9
        show Goes p e below _ (sF T9 m 43 #[rv a1, iv (4 : Int32)] [(.int (0 : Int32))])
        refine Goes.step ?_ (fun _ k => XS.ifYes X9.here hx rfl (pc0 := 43) (pc' := 48) rfl (hb hby d10_43) rfl ((if0 _ _).trans (teq (by decide : (0 : Int32) = (0 : Int32))).1) (by decide) (by decide) k)
        show Goes p e below _ (sF T9 m 48 #[rv a1, iv (4 : Int32)] [])
        refine Goes.step ?_ (fun _ k => XS.iconst X9.here hx rfl (hb hby d10_48) k)
        show Goes p e below _ (sF T9 m 49 #[rv a1, iv (4 : Int32)] [(.int (0 : Int32))])
        refine own_out X9 hx hlk hret rfl (Or.inl ⟨rfl, by simp, _, rfl⟩) (hb hby d10_49) ?_ (by decide) (by decide)
        show QInt (lg4 b0 b1 b2 b3) h0 n0 _ T9.heap _
        rw [e9]
        exact ⟨by unfold lg4; rw [if_neg hB3_1, if_neg hB2_4, if_neg hB1_7], N9, rfl⟩
def Q0 (n0 : Nat) (v : Option Value) (h : Heap) (L : List Loc) : Prop := v = some (.int 1) ∧ Fr n0 L
theorem own_six (x : Int32) : (x &&& (2147483647 : Int32)) % (6 : Int32) = 0 ∨ (x &&& (2147483647 : Int32)) % (6 : Int32) = 1 ∨ (x &&& (2147483647 : Int32)) % (6 : Int32) = 2 ∨ (x &&& (2147483647 : Int32)) % (6 : Int32) = 3 ∨ (x &&& (2147483647 : Int32)) % (6 : Int32) = 4 ∨ (x &&& (2147483647 : Int32)) % (6 : Int32) = 5 := by
  have h1 := c_mask x 2147483647 31 (by decide) (by decide)
  have h2 := (c_irem (x &&& (2147483647 : Int32)) 6 6 (by decide)).1 (by rw [h1]; omega)
  simp only [← Int32.toInt_inj]
  rw [h2]
  have e0 : (0 : Int32).toInt = 0 := by decide
  have e1 : (1 : Int32).toInt = 1 := by decide
  have e2 : (2 : Int32).toInt = 2 := by decide
  have e3 : (3 : Int32).toInt = 3 := by decide
  have e4 : (4 : Int32).toInt = 4 := by decide
  have e5 : (5 : Int32).toInt = 5 := by decide
  rw [e0, e1, e2, e3, e4, e5]
  omega
theorem own_byte (x : Int32) : (x.toInt8.toInt32).toInt8.toInt32 = x.toInt8.toInt32 := by simp
theorem pd__28_29J : parseMethodDescriptor "()J" = some ⟨[], some .long⟩ := by decide +kernel
set_option maxRecDepth 65536 in
set_option maxHeartbeats 40000000 in
theorem tail494 {p : Program} {l : Launch} {e : Env} {s : State} {m : MethodId} {args : Array Value} {below : List Frame} {meth : Method} {c : Code} {T0 : State} {locs : List Loc} {Z : State} {a0 : Array Value} {h0 : Heap} {n0 : Nat} (p1 : Int32) (p2 : Int32) (p3 : Int32) (p4 : Int32) (p5 : Int32) (p6 : Int32) (nn : Int32) (b0 : Int32) (b1 : Int32) (b2 : Int32) (b3 : Int32) (b4 : Int32) (pa : Addr) (co : Addr) (u : Addr) (kp : ClassId) (ku : ClassId) (pl : List Value) (rl : List Value) (q : Int64)
    (X0 : Stand p l e room_1 s m args below meth c T0 locs (9) (60)) (hx : p.tables.exec = Jvm.exec) (hZ : Z.Warmed39 s.vm) (hw : ∀ d ∈ tables_1, d.before a0 Z = true) (hby : c.code = code) (hlk : meth.locks = false) (hret : meth.sig.returnType = some .boolean) (hml : c.maxLocals = 22) (hown : s.vm.findClass "com/example/borderline/borderline/BorderTableShiftedPinLaw" = some m.cls) (e0 : T0.heap = h0) (N0 : Fr n0 locs) (Z0 : n0 ≤ h0.size) (V_pa : Arv Z h0 pa kp .byte nn pl (.int (0 : Int32))) (V_u : Arv Z h0 u ku .int nn rl (.int (0 : Int32))) (F_count : Fld Z h0 co "com/example/borderline/borderline/Comparisons" "count" "J" (.long q)) (E_co : Exa Z h0 co "com/example/borderline/borderline/Comparisons") (hr0 : (0 : Int32) < nn → rl.getD ((0 : Int32)).toNatClampNeg (.int (0 : Int32)) = .int (-1 : Int32)) (hr1 : (1 : Int32) < nn → rl.getD ((1 : Int32)).toNatClampNeg (.int (0 : Int32)) = .int (0 : Int32)) (hr2 : (2 : Int32) < nn → rl.getD ((2 : Int32)).toNatClampNeg (.int (0 : Int32)) = .int (lg2 b0 b1)) (hr3 : (3 : Int32) < nn → rl.getD ((3 : Int32)).toNatClampNeg (.int (0 : Int32)) = .int (lg3 b0 b1 b2)) (hr4 : (4 : Int32) < nn → rl.getD ((4 : Int32)).toNatClampNeg (.int (0 : Int32)) = .int (lg4 b0 b1 b2 b3)) (hp0 : (0 : Int32) < nn → pl.getD ((0 : Int32)).toNatClampNeg (.int (0 : Int32)) = .int b0) (hp1 : (1 : Int32) < nn → pl.getD ((1 : Int32)).toNatClampNeg (.int (0 : Int32)) = .int b1) (hp2 : (2 : Int32) < nn → pl.getD ((2 : Int32)).toNatClampNeg (.int (0 : Int32)) = .int b2) (hp3 : (3 : Int32) < nn → pl.getD ((3 : Int32)).toNatClampNeg (.int (0 : Int32)) = .int b3) (hp4 : (4 : Int32) < nn → pl.getD ((4 : Int32)).toNatClampNeg (.int (0 : Int32)) = .int b4) (l1 : ¬ (lcmpW q ((maxV (nn - (2 : Int32)) (0 : Int32)).toInt64)) < 0) (l2 : ¬ (0 : Int32) < (lcmpW q ((maxV (((2 : Int32) * nn) - (4 : Int32)) (0 : Int32)).toInt64))) :
    Goes p e below (fun o U' => ∃ v L, o = .returned v ∧ Q0 n0 v U'.heap L ∧ FrameEnd s o U' L room_1.cells room_1.slots) (T0.setTop (mkF m 494 #[iv p1, iv p2, iv p3, iv p4, iv p5, iv p6, iv nn, iv b0, iv b1, iv b2, iv b3, iv b4, rv pa, rv co, rv u, iv (1 : Int32), .unset, .unset, .unset, .unset, .unset, .unset] [])) := by
  show Goes p e below _ (sF T0 m 494 #[iv p1, iv p2, iv p3, iv p4, iv p5, iv p6, iv nn, iv b0, iv b1, iv b2, iv b3, iv b4, rv pa, rv co, rv u, iv (1 : Int32), .unset, .unset, .unset, .unset, .unset, .unset] [])
  refine Goes.step ?_ (fun _ k => XS.aload X0.here hx rfl (hb hby at_494) rfl rfl k)
  show Goes p e below _ (sF T0 m 496 #[iv p1, iv p2, iv p3, iv p4, iv p5, iv p6, iv nn, iv b0, iv b1, iv b2, iv b3, iv b4, rv pa, rv co, rv u, iv (1 : Int32), .unset, .unset, .unset, .unset, .unset, .unset] [(.ref co)])
  obtain ⟨cq1, kq1, q1a, q1b, q1c⟩ := isOf hZ e0 E_co
  obtain ⟨_, _, ⟨T1, L1, k1, n1⟩, -, X1, ⟨Lc1, hQ1, l1, y1, z1⟩, st1⟩ := X0.virtualBack hx (y := (⟨"com/example/borderline/borderline/Comparisons", "count", "()J"⟩ : MethodName)) (z := (⟨"com/example/borderline/borderline/Comparisons", "count", "()J"⟩ : MethodName)) hown (mvT hZ (hw _ (List.mem_of_getElem? (i := 16) rfl))) (mvT hZ (hw _ (List.mem_of_getElem? (i := 17) rfl))) (notFace_of_selects (args := #[]) (mvT hZ (hw _ (List.mem_of_getElem? (i := 19) rfl)))) (mvT hZ (hw _ (List.mem_of_getElem? (i := 19) rfl))) (mvT hZ (hw _ (List.mem_of_getElem? (i := 18) rfl))) (by decide) (backOf (W := 0) (rmCount l Z a0 hw [] co q h0 n0 Z0 F_count) hZ (hw _ (List.mem_of_getElem? (i := 20) rfl)) (hw _ (List.mem_of_getElem? (i := 4) rfl)) (by decide) (by decide)) q1a q1c (g := (mkF m 496 #[iv p1, iv p2, iv p3, iv p4, iv p5, iv p6, iv nn, iv b0, iv b1, iv b2, iv b3, iv b4, rv pa, rv co, rv u, iv (1 : Int32), .unset, .unset, .unset, .unset, .unset, .unset] [(.ref co)])) rfl (by rw [hml]; rfl) (Steps.refl _) (argsL := []) (rest := []) (lenOf pd__28_29J rfl) rfl (by show 2 * 0 + _ ≤ _; exact Nat.le_of_eq rfl) (hb hby at_496) (fun _ _ => ⟨rfl, e0, (by decide : 9 + 0 ≤ _), (by decide : 60 + 0 ≤ _)⟩)
  dsimp only [Pt.U, Pt.locs, Pt.cells, Pt.slots] at X1 l1 y1 z1 st1 hQ1
  subst l1 y1 z1
  obtain ⟨rfl, N1q, e1⟩ := hQ1
  have N1 := Fr.app N0 N1q
  refine Goes.step ?_ (fun _ k => st1.trans k)
  show Goes p e below _ (sF T1 m 499 #[iv p1, iv p2, iv p3, iv p4, iv p5, iv p6, iv nn, iv b0, iv b1, iv b2, iv b3, iv b4, rv pa, rv co, rv u, iv (1 : Int32), .unset, .unset, .unset, .unset, .unset, .unset] [(.long q)])
  refine Goes.step ?_ (fun _ k => XS.lstore X1.here hx rfl (hb hby at_499) rfl (l' := #[iv p1, iv p2, iv p3, iv p4, iv p5, iv p6, iv nn, iv b0, iv b1, iv b2, iv b3, iv b4, rv pa, rv co, rv u, iv (1 : Int32), .val (.long q), .second, .unset, .unset, .unset, .unset]) rfl k)
  show Goes p e below _ (sF T1 m 501 #[iv p1, iv p2, iv p3, iv p4, iv p5, iv p6, iv nn, iv b0, iv b1, iv b2, iv b3, iv b4, rv pa, rv co, rv u, iv (1 : Int32), .val (.long q), .second, .unset, .unset, .unset, .unset] [])
  refine Goes.step ?_ (fun _ k => XS.iload X1.here hx rfl (hb hby at_501) rfl  k)
  show Goes p e below _ (sF T1 m 503 #[iv p1, iv p2, iv p3, iv p4, iv p5, iv p6, iv nn, iv b0, iv b1, iv b2, iv b3, iv b4, rv pa, rv co, rv u, iv (1 : Int32), .val (.long q), .second, .unset, .unset, .unset, .unset] [(.int nn)])
  refine Goes.step ?_ (fun _ k => XS.iconst X1.here hx rfl (hb hby at_503) k)
  show Goes p e below _ (sF T1 m 504 #[iv p1, iv p2, iv p3, iv p4, iv p5, iv p6, iv nn, iv b0, iv b1, iv b2, iv b3, iv b4, rv pa, rv co, rv u, iv (1 : Int32), .val (.long q), .second, .unset, .unset, .unset, .unset] [(.int (2 : Int32)), (.int nn)])
  refine Goes.step ?_ (fun _ k => XS.isub X1.here hx rfl (hb hby at_504) rfl k)
  show Goes p e below _ (sF T1 m 505 #[iv p1, iv p2, iv p3, iv p4, iv p5, iv p6, iv nn, iv b0, iv b1, iv b2, iv b3, iv b4, rv pa, rv co, rv u, iv (1 : Int32), .val (.long q), .second, .unset, .unset, .unset, .unset] [(.int (nn - (2 : Int32)))])
  refine Goes.step ?_ (fun _ k => XS.iconst X1.here hx rfl (hb hby at_505) k)
  show Goes p e below _ (sF T1 m 506 #[iv p1, iv p2, iv p3, iv p4, iv p5, iv p6, iv nn, iv b0, iv b1, iv b2, iv b3, iv b4, rv pa, rv co, rv u, iv (1 : Int32), .val (.long q), .second, .unset, .unset, .unset, .unset] [(.int (0 : Int32)), (.int (nn - (2 : Int32)))])
  obtain ⟨_, _, ⟨T2, L2, k2, n2⟩, -, X2, ⟨Lc2, hQ2, l2, y2, z2⟩, st2⟩ := Jvm.LawKit.callS X1 hx (y := (⟨"java/lang/Math", "max", "(II)I"⟩ : MethodName)) hown (mvT hZ (hw _ (List.mem_of_getElem? (i := 23) rfl))) (mvT hZ (hw _ (List.mem_of_getElem? (i := 24) rfl))) (mvT hZ (hw _ (List.mem_of_getElem? (i := 25) rfl))) (mvT hZ (hw _ (List.mem_of_getElem? (i := 26) rfl))) (by decide) (backOf (W := 0) (rmMax l Z a0 hw [] (nn - (2 : Int32)) (0 : Int32)  h0 n0 Z0 ) hZ (hw _ (List.mem_of_getElem? (i := 26) rfl)) (hw _ (List.mem_of_getElem? (i := 25) rfl)) (by decide) (by decide)) (g := (mkF m 506 #[iv p1, iv p2, iv p3, iv p4, iv p5, iv p6, iv nn, iv b0, iv b1, iv b2, iv b3, iv b4, rv pa, rv co, rv u, iv (1 : Int32), .val (.long q), .second, .unset, .unset, .unset, .unset] [(.int (0 : Int32)), (.int (nn - (2 : Int32)))])) rfl (by rw [hml]; rfl) (argsL := [(.int (nn - (2 : Int32))), (.int (0 : Int32))]) (rest := []) (lenOf pd__28II_29I rfl) rfl (by show 2 * 0 + _ ≤ _; exact Nat.le_of_eq rfl) (hb hby at_506) (fun _ _ => ⟨rfl, e1, (by decide : 9 + 0 ≤ _), (by decide : 60 + 0 ≤ _)⟩)
  dsimp only [Pt.U, Pt.locs, Pt.cells, Pt.slots] at X2 l2 y2 z2 st2 hQ2
  subst l2 y2 z2
  obtain ⟨rfl, N2q, e2⟩ := hQ2
  have N2 := Fr.app N1 N2q
  refine Goes.step ?_ st2
  show Goes p e below _ (sF T2 m 509 #[iv p1, iv p2, iv p3, iv p4, iv p5, iv p6, iv nn, iv b0, iv b1, iv b2, iv b3, iv b4, rv pa, rv co, rv u, iv (1 : Int32), .val (.long q), .second, .unset, .unset, .unset, .unset] [(.int (maxV (nn - (2 : Int32)) (0 : Int32)))])
  refine Goes.step ?_ (fun _ k => XS.i2l X2.here hx rfl (hb hby at_509) rfl k)
  show Goes p e below _ (sF T2 m 510 #[iv p1, iv p2, iv p3, iv p4, iv p5, iv p6, iv nn, iv b0, iv b1, iv b2, iv b3, iv b4, rv pa, rv co, rv u, iv (1 : Int32), .val (.long q), .second, .unset, .unset, .unset, .unset] [(.long ((maxV (nn - (2 : Int32)) (0 : Int32)).toInt64))])
  refine Goes.step ?_ (fun _ k => XS.lstore X2.here hx rfl (hb hby at_510) rfl (l' := #[iv p1, iv p2, iv p3, iv p4, iv p5, iv p6, iv nn, iv b0, iv b1, iv b2, iv b3, iv b4, rv pa, rv co, rv u, iv (1 : Int32), .val (.long q), .second, .val (.long ((maxV (nn - (2 : Int32)) (0 : Int32)).toInt64)), .second, .unset, .unset]) rfl k)
  show Goes p e below _ (sF T2 m 512 #[iv p1, iv p2, iv p3, iv p4, iv p5, iv p6, iv nn, iv b0, iv b1, iv b2, iv b3, iv b4, rv pa, rv co, rv u, iv (1 : Int32), .val (.long q), .second, .val (.long ((maxV (nn - (2 : Int32)) (0 : Int32)).toInt64)), .second, .unset, .unset] [])
  refine Goes.step ?_ (fun _ k => XS.iconst X2.here hx rfl (hb hby at_512) k)
  show Goes p e below _ (sF T2 m 513 #[iv p1, iv p2, iv p3, iv p4, iv p5, iv p6, iv nn, iv b0, iv b1, iv b2, iv b3, iv b4, rv pa, rv co, rv u, iv (1 : Int32), .val (.long q), .second, .val (.long ((maxV (nn - (2 : Int32)) (0 : Int32)).toInt64)), .second, .unset, .unset] [(.int (2 : Int32))])
  refine Goes.step ?_ (fun _ k => XS.iload X2.here hx rfl (hb hby at_513) rfl  k)
  show Goes p e below _ (sF T2 m 515 #[iv p1, iv p2, iv p3, iv p4, iv p5, iv p6, iv nn, iv b0, iv b1, iv b2, iv b3, iv b4, rv pa, rv co, rv u, iv (1 : Int32), .val (.long q), .second, .val (.long ((maxV (nn - (2 : Int32)) (0 : Int32)).toInt64)), .second, .unset, .unset] [(.int nn), (.int (2 : Int32))])
  refine Goes.step ?_ (fun _ k => XS.imul X2.here hx rfl (hb hby at_515) rfl k)
  show Goes p e below _ (sF T2 m 516 #[iv p1, iv p2, iv p3, iv p4, iv p5, iv p6, iv nn, iv b0, iv b1, iv b2, iv b3, iv b4, rv pa, rv co, rv u, iv (1 : Int32), .val (.long q), .second, .val (.long ((maxV (nn - (2 : Int32)) (0 : Int32)).toInt64)), .second, .unset, .unset] [(.int ((2 : Int32) * nn))])
  refine Goes.step ?_ (fun _ k => XS.iconst X2.here hx rfl (hb hby at_516) k)
  show Goes p e below _ (sF T2 m 517 #[iv p1, iv p2, iv p3, iv p4, iv p5, iv p6, iv nn, iv b0, iv b1, iv b2, iv b3, iv b4, rv pa, rv co, rv u, iv (1 : Int32), .val (.long q), .second, .val (.long ((maxV (nn - (2 : Int32)) (0 : Int32)).toInt64)), .second, .unset, .unset] [(.int (4 : Int32)), (.int ((2 : Int32) * nn))])
  refine Goes.step ?_ (fun _ k => XS.isub X2.here hx rfl (hb hby at_517) rfl k)
  show Goes p e below _ (sF T2 m 518 #[iv p1, iv p2, iv p3, iv p4, iv p5, iv p6, iv nn, iv b0, iv b1, iv b2, iv b3, iv b4, rv pa, rv co, rv u, iv (1 : Int32), .val (.long q), .second, .val (.long ((maxV (nn - (2 : Int32)) (0 : Int32)).toInt64)), .second, .unset, .unset] [(.int (((2 : Int32) * nn) - (4 : Int32)))])
  refine Goes.step ?_ (fun _ k => XS.iconst X2.here hx rfl (hb hby at_518) k)
  show Goes p e below _ (sF T2 m 519 #[iv p1, iv p2, iv p3, iv p4, iv p5, iv p6, iv nn, iv b0, iv b1, iv b2, iv b3, iv b4, rv pa, rv co, rv u, iv (1 : Int32), .val (.long q), .second, .val (.long ((maxV (nn - (2 : Int32)) (0 : Int32)).toInt64)), .second, .unset, .unset] [(.int (0 : Int32)), (.int (((2 : Int32) * nn) - (4 : Int32)))])
  obtain ⟨_, _, ⟨T3, L3, k3, n3⟩, -, X3, ⟨Lc3, hQ3, l3, y3, z3⟩, st3⟩ := Jvm.LawKit.callS X2 hx (y := (⟨"java/lang/Math", "max", "(II)I"⟩ : MethodName)) hown (mvT hZ (hw _ (List.mem_of_getElem? (i := 23) rfl))) (mvT hZ (hw _ (List.mem_of_getElem? (i := 24) rfl))) (mvT hZ (hw _ (List.mem_of_getElem? (i := 25) rfl))) (mvT hZ (hw _ (List.mem_of_getElem? (i := 26) rfl))) (by decide) (backOf (W := 0) (rmMax l Z a0 hw [] (((2 : Int32) * nn) - (4 : Int32)) (0 : Int32)  h0 n0 Z0 ) hZ (hw _ (List.mem_of_getElem? (i := 26) rfl)) (hw _ (List.mem_of_getElem? (i := 25) rfl)) (by decide) (by decide)) (g := (mkF m 519 #[iv p1, iv p2, iv p3, iv p4, iv p5, iv p6, iv nn, iv b0, iv b1, iv b2, iv b3, iv b4, rv pa, rv co, rv u, iv (1 : Int32), .val (.long q), .second, .val (.long ((maxV (nn - (2 : Int32)) (0 : Int32)).toInt64)), .second, .unset, .unset] [(.int (0 : Int32)), (.int (((2 : Int32) * nn) - (4 : Int32)))])) rfl (by rw [hml]; rfl) (argsL := [(.int (((2 : Int32) * nn) - (4 : Int32))), (.int (0 : Int32))]) (rest := []) (lenOf pd__28II_29I rfl) rfl (by show 2 * 0 + _ ≤ _; exact Nat.le_of_eq rfl) (hb hby at_519) (fun _ _ => ⟨rfl, e2, (by decide : 9 + 0 ≤ _), (by decide : 60 + 0 ≤ _)⟩)
  dsimp only [Pt.U, Pt.locs, Pt.cells, Pt.slots] at X3 l3 y3 z3 st3 hQ3
  subst l3 y3 z3
  obtain ⟨rfl, N3q, e3⟩ := hQ3
  have N3 := Fr.app N2 N3q
  refine Goes.step ?_ st3
  show Goes p e below _ (sF T3 m 522 #[iv p1, iv p2, iv p3, iv p4, iv p5, iv p6, iv nn, iv b0, iv b1, iv b2, iv b3, iv b4, rv pa, rv co, rv u, iv (1 : Int32), .val (.long q), .second, .val (.long ((maxV (nn - (2 : Int32)) (0 : Int32)).toInt64)), .second, .unset, .unset] [(.int (maxV (((2 : Int32) * nn) - (4 : Int32)) (0 : Int32)))])
  refine Goes.step ?_ (fun _ k => XS.i2l X3.here hx rfl (hb hby at_522) rfl k)
  show Goes p e below _ (sF T3 m 523 #[iv p1, iv p2, iv p3, iv p4, iv p5, iv p6, iv nn, iv b0, iv b1, iv b2, iv b3, iv b4, rv pa, rv co, rv u, iv (1 : Int32), .val (.long q), .second, .val (.long ((maxV (nn - (2 : Int32)) (0 : Int32)).toInt64)), .second, .unset, .unset] [(.long ((maxV (((2 : Int32) * nn) - (4 : Int32)) (0 : Int32)).toInt64))])
  refine Goes.step ?_ (fun _ k => XS.lstore X3.here hx rfl (hb hby at_523) rfl (l' := #[iv p1, iv p2, iv p3, iv p4, iv p5, iv p6, iv nn, iv b0, iv b1, iv b2, iv b3, iv b4, rv pa, rv co, rv u, iv (1 : Int32), .val (.long q), .second, .val (.long ((maxV (nn - (2 : Int32)) (0 : Int32)).toInt64)), .second, .val (.long ((maxV (((2 : Int32) * nn) - (4 : Int32)) (0 : Int32)).toInt64)), .second]) rfl k)
  show Goes p e below _ (sF T3 m 525 #[iv p1, iv p2, iv p3, iv p4, iv p5, iv p6, iv nn, iv b0, iv b1, iv b2, iv b3, iv b4, rv pa, rv co, rv u, iv (1 : Int32), .val (.long q), .second, .val (.long ((maxV (nn - (2 : Int32)) (0 : Int32)).toInt64)), .second, .val (.long ((maxV (((2 : Int32) * nn) - (4 : Int32)) (0 : Int32)).toInt64)), .second] [])
  refine Goes.step ?_ (fun _ k => XS.iload X3.here hx rfl (hb hby at_525) rfl  k)
  show Goes p e below _ (sF T3 m 527 #[iv p1, iv p2, iv p3, iv p4, iv p5, iv p6, iv nn, iv b0, iv b1, iv b2, iv b3, iv b4, rv pa, rv co, rv u, iv (1 : Int32), .val (.long q), .second, .val (.long ((maxV (nn - (2 : Int32)) (0 : Int32)).toInt64)), .second, .val (.long ((maxV (((2 : Int32) * nn) - (4 : Int32)) (0 : Int32)).toInt64)), .second] [(.int (1 : Int32))])
  refine Goes.step ?_ (fun _ k => XS.ifNo X3.here hx rfl (hb hby at_527) rfl ((if0 _ _).trans (feq (by decide : ¬ ((1 : Int32) = (0 : Int32)))).1) k)
  show Goes p e below _ (sF T3 m 530 #[iv p1, iv p2, iv p3, iv p4, iv p5, iv p6, iv nn, iv b0, iv b1, iv b2, iv b3, iv b4, rv pa, rv co, rv u, iv (1 : Int32), .val (.long q), .second, .val (.long ((maxV (nn - (2 : Int32)) (0 : Int32)).toInt64)), .second, .val (.long ((maxV (((2 : Int32) * nn) - (4 : Int32)) (0 : Int32)).toInt64)), .second] [])
  refine Goes.step ?_ (fun _ k => XS.lload X3.here hx rfl (hb hby at_530) rfl  k)
  show Goes p e below _ (sF T3 m 532 #[iv p1, iv p2, iv p3, iv p4, iv p5, iv p6, iv nn, iv b0, iv b1, iv b2, iv b3, iv b4, rv pa, rv co, rv u, iv (1 : Int32), .val (.long q), .second, .val (.long ((maxV (nn - (2 : Int32)) (0 : Int32)).toInt64)), .second, .val (.long ((maxV (((2 : Int32) * nn) - (4 : Int32)) (0 : Int32)).toInt64)), .second] [(.long q)])
  refine Goes.step ?_ (fun _ k => XS.lload X3.here hx rfl (hb hby at_532) rfl  k)
  show Goes p e below _ (sF T3 m 534 #[iv p1, iv p2, iv p3, iv p4, iv p5, iv p6, iv nn, iv b0, iv b1, iv b2, iv b3, iv b4, rv pa, rv co, rv u, iv (1 : Int32), .val (.long q), .second, .val (.long ((maxV (nn - (2 : Int32)) (0 : Int32)).toInt64)), .second, .val (.long ((maxV (((2 : Int32) * nn) - (4 : Int32)) (0 : Int32)).toInt64)), .second] [(.long ((maxV (nn - (2 : Int32)) (0 : Int32)).toInt64)), (.long q)])
  refine Goes.step ?_ (fun _ k => XS.lcmp X3.here hx rfl (hb hby at_534) rfl k)
  show Goes p e below _ (sF T3 m 535 #[iv p1, iv p2, iv p3, iv p4, iv p5, iv p6, iv nn, iv b0, iv b1, iv b2, iv b3, iv b4, rv pa, rv co, rv u, iv (1 : Int32), .val (.long q), .second, .val (.long ((maxV (nn - (2 : Int32)) (0 : Int32)).toInt64)), .second, .val (.long ((maxV (((2 : Int32) * nn) - (4 : Int32)) (0 : Int32)).toInt64)), .second] [(.int (lcmpW q ((maxV (nn - (2 : Int32)) (0 : Int32)).toInt64)))])
  refine Goes.step ?_ (fun _ k => XS.ifNo X3.here hx rfl (hb hby at_535) rfl ((if0 _ _).trans (flt l1).1) k)
  show Goes p e below _ (sF T3 m 538 #[iv p1, iv p2, iv p3, iv p4, iv p5, iv p6, iv nn, iv b0, iv b1, iv b2, iv b3, iv b4, rv pa, rv co, rv u, iv (1 : Int32), .val (.long q), .second, .val (.long ((maxV (nn - (2 : Int32)) (0 : Int32)).toInt64)), .second, .val (.long ((maxV (((2 : Int32) * nn) - (4 : Int32)) (0 : Int32)).toInt64)), .second] [])
  refine Goes.step ?_ (fun _ k => XS.lload X3.here hx rfl (hb hby at_538) rfl  k)
  show Goes p e below _ (sF T3 m 540 #[iv p1, iv p2, iv p3, iv p4, iv p5, iv p6, iv nn, iv b0, iv b1, iv b2, iv b3, iv b4, rv pa, rv co, rv u, iv (1 : Int32), .val (.long q), .second, .val (.long ((maxV (nn - (2 : Int32)) (0 : Int32)).toInt64)), .second, .val (.long ((maxV (((2 : Int32) * nn) - (4 : Int32)) (0 : Int32)).toInt64)), .second] [(.long q)])
  refine Goes.step ?_ (fun _ k => XS.lload X3.here hx rfl (hb hby at_540) rfl  k)
  show Goes p e below _ (sF T3 m 542 #[iv p1, iv p2, iv p3, iv p4, iv p5, iv p6, iv nn, iv b0, iv b1, iv b2, iv b3, iv b4, rv pa, rv co, rv u, iv (1 : Int32), .val (.long q), .second, .val (.long ((maxV (nn - (2 : Int32)) (0 : Int32)).toInt64)), .second, .val (.long ((maxV (((2 : Int32) * nn) - (4 : Int32)) (0 : Int32)).toInt64)), .second] [(.long ((maxV (((2 : Int32) * nn) - (4 : Int32)) (0 : Int32)).toInt64)), (.long q)])
  refine Goes.step ?_ (fun _ k => XS.lcmp X3.here hx rfl (hb hby at_542) rfl k)
  show Goes p e below _ (sF T3 m 543 #[iv p1, iv p2, iv p3, iv p4, iv p5, iv p6, iv nn, iv b0, iv b1, iv b2, iv b3, iv b4, rv pa, rv co, rv u, iv (1 : Int32), .val (.long q), .second, .val (.long ((maxV (nn - (2 : Int32)) (0 : Int32)).toInt64)), .second, .val (.long ((maxV (((2 : Int32) * nn) - (4 : Int32)) (0 : Int32)).toInt64)), .second] [(.int (lcmpW q ((maxV (((2 : Int32) * nn) - (4 : Int32)) (0 : Int32)).toInt64)))])
  refine Goes.step ?_ (fun _ k => XS.ifNo X3.here hx rfl (hb hby at_543) rfl ((if0 _ _).trans (flt l2).2.2.1) k)
  show Goes p e below _ (sF T3 m 546 #[iv p1, iv p2, iv p3, iv p4, iv p5, iv p6, iv nn, iv b0, iv b1, iv b2, iv b3, iv b4, rv pa, rv co, rv u, iv (1 : Int32), .val (.long q), .second, .val (.long ((maxV (nn - (2 : Int32)) (0 : Int32)).toInt64)), .second, .val (.long ((maxV (((2 : Int32) * nn) - (4 : Int32)) (0 : Int32)).toInt64)), .second] [])
  refine Goes.step ?_ (fun _ k => XS.iconst X3.here hx rfl (hb hby at_546) k)
  show Goes p e below _ (sF T3 m 547 #[iv p1, iv p2, iv p3, iv p4, iv p5, iv p6, iv nn, iv b0, iv b1, iv b2, iv b3, iv b4, rv pa, rv co, rv u, iv (1 : Int32), .val (.long q), .second, .val (.long ((maxV (nn - (2 : Int32)) (0 : Int32)).toInt64)), .second, .val (.long ((maxV (((2 : Int32) * nn) - (4 : Int32)) (0 : Int32)).toInt64)), .second] [(.int (1 : Int32))])
  refine Goes.step ?_ (fun _ k => XS.goto X3.here hx rfl (pc0 := 547) (pc' := 551) rfl (hb hby at_547) (by decide) (by decide) k)
  show Goes p e below _ (sF T3 m 551 #[iv p1, iv p2, iv p3, iv p4, iv p5, iv p6, iv nn, iv b0, iv b1, iv b2, iv b3, iv b4, rv pa, rv co, rv u, iv (1 : Int32), .val (.long q), .second, .val (.long ((maxV (nn - (2 : Int32)) (0 : Int32)).toInt64)), .second, .val (.long ((maxV (((2 : Int32) * nn) - (4 : Int32)) (0 : Int32)).toInt64)), .second] [(.int (1 : Int32))])
  refine Goes.step ?_ (fun _ k => XS.istore X3.here hx rfl (hb hby at_551) rfl (l' := #[iv p1, iv p2, iv p3, iv p4, iv p5, iv p6, iv nn, iv b0, iv b1, iv b2, iv b3, iv b4, rv pa, rv co, rv u, iv (1 : Int32), .val (.long q), .second, .val (.long ((maxV (nn - (2 : Int32)) (0 : Int32)).toInt64)), .second, .val (.long ((maxV (((2 : Int32) * nn) - (4 : Int32)) (0 : Int32)).toInt64)), .second]) rfl k)
  show Goes p e below _ (sF T3 m 553 #[iv p1, iv p2, iv p3, iv p4, iv p5, iv p6, iv nn, iv b0, iv b1, iv b2, iv b3, iv b4, rv pa, rv co, rv u, iv (1 : Int32), .val (.long q), .second, .val (.long ((maxV (nn - (2 : Int32)) (0 : Int32)).toInt64)), .second, .val (.long ((maxV (((2 : Int32) * nn) - (4 : Int32)) (0 : Int32)).toInt64)), .second] [])
  refine Goes.step ?_ (fun _ k => XS.iload X3.here hx rfl (hb hby at_553) rfl  k)
  show Goes p e below _ (sF T3 m 555 #[iv p1, iv p2, iv p3, iv p4, iv p5, iv p6, iv nn, iv b0, iv b1, iv b2, iv b3, iv b4, rv pa, rv co, rv u, iv (1 : Int32), .val (.long q), .second, .val (.long ((maxV (nn - (2 : Int32)) (0 : Int32)).toInt64)), .second, .val (.long ((maxV (((2 : Int32) * nn) - (4 : Int32)) (0 : Int32)).toInt64)), .second] [(.int (1 : Int32))])
  refine own_out X3 hx hlk hret rfl (Or.inl ⟨rfl, by simp, _, rfl⟩) (hb hby at_555) ?_ (by decide) (by decide)
  show Q0 n0 _ T3.heap _
  rw [e3]
  exact ⟨rfl, N3⟩
set_option maxRecDepth 65536 in
set_option maxHeartbeats 40000000 in
theorem tail467 {p : Program} {l : Launch} {e : Env} {s : State} {m : MethodId} {args : Array Value} {below : List Frame} {meth : Method} {c : Code} {T0 : State} {locs : List Loc} {Z : State} {a0 : Array Value} {h0 : Heap} {n0 : Nat} (p1 : Int32) (p2 : Int32) (p3 : Int32) (p4 : Int32) (p5 : Int32) (p6 : Int32) (nn : Int32) (b0 : Int32) (b1 : Int32) (b2 : Int32) (b3 : Int32) (b4 : Int32) (pa : Addr) (co : Addr) (u : Addr) (kp : ClassId) (ku : ClassId) (pl : List Value) (rl : List Value) (q : Int64)
    (X0 : Stand p l e room_1 s m args below meth c T0 locs (9) (60)) (hx : p.tables.exec = Jvm.exec) (hZ : Z.Warmed39 s.vm) (hw : ∀ d ∈ tables_1, d.before a0 Z = true) (hby : c.code = code) (hlk : meth.locks = false) (hret : meth.sig.returnType = some .boolean) (hml : c.maxLocals = 22) (hown : s.vm.findClass "com/example/borderline/borderline/BorderTableShiftedPinLaw" = some m.cls) (e0 : T0.heap = h0) (N0 : Fr n0 locs) (Z0 : n0 ≤ h0.size) (V_pa : Arv Z h0 pa kp .byte nn pl (.int (0 : Int32))) (V_u : Arv Z h0 u ku .int nn rl (.int (0 : Int32))) (F_count : Fld Z h0 co "com/example/borderline/borderline/Comparisons" "count" "J" (.long q)) (E_co : Exa Z h0 co "com/example/borderline/borderline/Comparisons") (hr0 : (0 : Int32) < nn → rl.getD ((0 : Int32)).toNatClampNeg (.int (0 : Int32)) = .int (-1 : Int32)) (hr1 : (1 : Int32) < nn → rl.getD ((1 : Int32)).toNatClampNeg (.int (0 : Int32)) = .int (0 : Int32)) (hr2 : (2 : Int32) < nn → rl.getD ((2 : Int32)).toNatClampNeg (.int (0 : Int32)) = .int (lg2 b0 b1)) (hr3 : (3 : Int32) < nn → rl.getD ((3 : Int32)).toNatClampNeg (.int (0 : Int32)) = .int (lg3 b0 b1 b2)) (hr4 : (4 : Int32) < nn → rl.getD ((4 : Int32)).toNatClampNeg (.int (0 : Int32)) = .int (lg4 b0 b1 b2 b3)) (hp0 : (0 : Int32) < nn → pl.getD ((0 : Int32)).toNatClampNeg (.int (0 : Int32)) = .int b0) (hp1 : (1 : Int32) < nn → pl.getD ((1 : Int32)).toNatClampNeg (.int (0 : Int32)) = .int b1) (hp2 : (2 : Int32) < nn → pl.getD ((2 : Int32)).toNatClampNeg (.int (0 : Int32)) = .int b2) (hp3 : (3 : Int32) < nn → pl.getD ((3 : Int32)).toNatClampNeg (.int (0 : Int32)) = .int b3) (hp4 : (4 : Int32) < nn → pl.getD ((4 : Int32)).toNatClampNeg (.int (0 : Int32)) = .int b4) (l1 : ¬ (lcmpW q ((maxV (nn - (2 : Int32)) (0 : Int32)).toInt64)) < 0) (l2 : ¬ (0 : Int32) < (lcmpW q ((maxV (((2 : Int32) * nn) - (4 : Int32)) (0 : Int32)).toInt64))) :
    Goes p e below (fun o U' => ∃ v L, o = .returned v ∧ Q0 n0 v U'.heap L ∧ FrameEnd s o U' L room_1.cells room_1.slots) (T0.setTop (mkF m 467 #[iv p1, iv p2, iv p3, iv p4, iv p5, iv p6, iv nn, iv b0, iv b1, iv b2, iv b3, iv b4, rv pa, rv co, rv u, iv (1 : Int32), .unset, .unset, .unset, .unset, .unset, .unset] [])) := by
  show Goes p e below _ (sF T0 m 467 #[iv p1, iv p2, iv p3, iv p4, iv p5, iv p6, iv nn, iv b0, iv b1, iv b2, iv b3, iv b4, rv pa, rv co, rv u, iv (1 : Int32), .unset, .unset, .unset, .unset, .unset, .unset] [])
  refine Goes.step ?_ (fun _ k => XS.iload X0.here hx rfl (hb hby at_467) rfl  k)
  show Goes p e below _ (sF T0 m 469 #[iv p1, iv p2, iv p3, iv p4, iv p5, iv p6, iv nn, iv b0, iv b1, iv b2, iv b3, iv b4, rv pa, rv co, rv u, iv (1 : Int32), .unset, .unset, .unset, .unset, .unset, .unset] [(.int nn)])
  refine Goes.step ?_ (fun _ k => XS.iconst X0.here hx rfl (hb hby at_469) k)
  show Goes p e below _ (sF T0 m 470 #[iv p1, iv p2, iv p3, iv p4, iv p5, iv p6, iv nn, iv b0, iv b1, iv b2, iv b3, iv b4, rv pa, rv co, rv u, iv (1 : Int32), .unset, .unset, .unset, .unset, .unset, .unset] [(.int (4 : Int32)), (.int nn)])
  by_cases hc470_1 : (4 : Int32) < nn
  · refine Goes.step ?_ (fun _ k => XS.icmpNo X0.here hx rfl (hb hby at_470) rfl (tlt hc470_1).2.2.2 k)
    show Goes p e below _ (sF T0 m 473 #[iv p1, iv p2, iv p3, iv p4, iv p5, iv p6, iv nn, iv b0, iv b1, iv b2, iv b3, iv b4, rv pa, rv co, rv u, iv (1 : Int32), .unset, .unset, .unset, .unset, .unset, .unset] [])
    refine Goes.step ?_ (fun _ k => XS.iload X0.here hx rfl (hb hby at_473) rfl  k)
    show Goes p e below _ (sF T0 m 475 #[iv p1, iv p2, iv p3, iv p4, iv p5, iv p6, iv nn, iv b0, iv b1, iv b2, iv b3, iv b4, rv pa, rv co, rv u, iv (1 : Int32), .unset, .unset, .unset, .unset, .unset, .unset] [(.int (1 : Int32))])
    refine Goes.step ?_ (fun _ k => XS.ifNo X0.here hx rfl (hb hby at_475) rfl ((if0 _ _).trans (feq (by decide : ¬ ((1 : Int32) = (0 : Int32)))).1) k)
    show Goes p e below _ (sF T0 m 478 #[iv p1, iv p2, iv p3, iv p4, iv p5, iv p6, iv nn, iv b0, iv b1, iv b2, iv b3, iv b4, rv pa, rv co, rv u, iv (1 : Int32), .unset, .unset, .unset, .unset, .unset, .unset] [])
    refine Goes.step ?_ (fun _ k => XS.aload X0.here hx rfl (hb hby at_478) rfl rfl k)
    show Goes p e below _ (sF T0 m 480 #[iv p1, iv p2, iv p3, iv p4, iv p5, iv p6, iv nn, iv b0, iv b1, iv b2, iv b3, iv b4, rv pa, rv co, rv u, iv (1 : Int32), .unset, .unset, .unset, .unset, .unset, .unset] [(.ref pa)])
    refine Goes.step ?_ (fun _ k => XS.iconst X0.here hx rfl (hb hby at_480) k)
    show Goes p e below _ (sF T0 m 481 #[iv p1, iv p2, iv p3, iv p4, iv p5, iv p6, iv nn, iv b0, iv b1, iv b2, iv b3, iv b4, rv pa, rv co, rv u, iv (1 : Int32), .unset, .unset, .unset, .unset, .unset, .unset] [(.int (4 : Int32)), (.ref pa)])
    obtain ⟨cl2, Ar2, q2, S2, N_2, H2, G2⟩ := id V_pa
    have hin3 : ¬ ((4 : Int32) < 0 ∨ cl2.slots.size ≤ ((4 : Int32)).toNatClampNeg) := inb_of S2 ⟨by decide, hc470_1⟩
    have hat3 : cl2.slots[((4 : Int32)).toNatClampNeg]? = some (.int b4) := H2.at hin3 (hp4 hc470_1)
    refine Goes.step ?_ (fun _ k => X0.baloadBytes hx (j := (4 : Int32)) (v := (.int b4)) (by rw [e0]; exact Ar2.1) (State.isArrayOf_alike hZ.alike Ar2.2.1) Ar2.2.2 hin3 hat3 (g := (mkF m 481 #[iv p1, iv p2, iv p3, iv p4, iv p5, iv p6, iv nn, iv b0, iv b1, iv b2, iv b3, iv b4, rv pa, rv co, rv u, iv (1 : Int32), .unset, .unset, .unset, .unset, .unset, .unset] [(.int (4 : Int32)), (.ref pa)])) rfl rfl (hb hby at_481) _ k)
    show Goes p e below _ (sF T0 m 482 #[iv p1, iv p2, iv p3, iv p4, iv p5, iv p6, iv nn, iv b0, iv b1, iv b2, iv b3, iv b4, rv pa, rv co, rv u, iv (1 : Int32), .unset, .unset, .unset, .unset, .unset, .unset] [(.int b4)])
    refine Goes.step ?_ (fun _ k => XS.iload X0.here hx rfl (hb hby at_482) rfl  k)
    show Goes p e below _ (sF T0 m 484 #[iv p1, iv p2, iv p3, iv p4, iv p5, iv p6, iv nn, iv b0, iv b1, iv b2, iv b3, iv b4, rv pa, rv co, rv u, iv (1 : Int32), .unset, .unset, .unset, .unset, .unset, .unset] [(.int b4), (.int b4)])
    refine Goes.step ?_ (fun _ k => XS.icmpNo X0.here hx rfl (hb hby at_484) rfl (teq (rfl : b4 = b4)).2 k)
    show Goes p e below _ (sF T0 m 487 #[iv p1, iv p2, iv p3, iv p4, iv p5, iv p6, iv nn, iv b0, iv b1, iv b2, iv b3, iv b4, rv pa, rv co, rv u, iv (1 : Int32), .unset, .unset, .unset, .unset, .unset, .unset] [])
    refine Goes.step ?_ (fun _ k => XS.iconst X0.here hx rfl (hb hby at_487) k)
    show Goes p e below _ (sF T0 m 488 #[iv p1, iv p2, iv p3, iv p4, iv p5, iv p6, iv nn, iv b0, iv b1, iv b2, iv b3, iv b4, rv pa, rv co, rv u, iv (1 : Int32), .unset, .unset, .unset, .unset, .unset, .unset] [(.int (1 : Int32))])
    refine Goes.step ?_ (fun _ k => XS.goto X0.here hx rfl (pc0 := 488) (pc' := 492) rfl (hb hby at_488) (by decide) (by decide) k)
    show Goes p e below _ (sF T0 m 492 #[iv p1, iv p2, iv p3, iv p4, iv p5, iv p6, iv nn, iv b0, iv b1, iv b2, iv b3, iv b4, rv pa, rv co, rv u, iv (1 : Int32), .unset, .unset, .unset, .unset, .unset, .unset] [(.int (1 : Int32))])
    refine Goes.step ?_ (fun _ k => XS.istore X0.here hx rfl (hb hby at_492) rfl (l' := #[iv p1, iv p2, iv p3, iv p4, iv p5, iv p6, iv nn, iv b0, iv b1, iv b2, iv b3, iv b4, rv pa, rv co, rv u, iv (1 : Int32), .unset, .unset, .unset, .unset, .unset, .unset]) rfl k)
    show Goes p e below _ (sF T0 m 494 #[iv p1, iv p2, iv p3, iv p4, iv p5, iv p6, iv nn, iv b0, iv b1, iv b2, iv b3, iv b4, rv pa, rv co, rv u, iv (1 : Int32), .unset, .unset, .unset, .unset, .unset, .unset] [])
    exact tail494 p1 p2 p3 p4 p5 p6 nn b0 b1 b2 b3 b4 pa co u kp ku pl rl q X0 hx hZ hw hby hlk hret hml hown e0 N0 Z0 V_pa V_u F_count E_co hr0 hr1 hr2 hr3 hr4 hp0 hp1 hp2 hp3 hp4 l1 l2
  · refine Goes.step ?_ (fun _ k => XS.icmpYes X0.here hx rfl (pc0 := 470) (pc' := 494) rfl (hb hby at_470) rfl (flt hc470_1).2.2.2 (by decide) (by decide) k)
    show Goes p e below _ (sF T0 m 494 #[iv p1, iv p2, iv p3, iv p4, iv p5, iv p6, iv nn, iv b0, iv b1, iv b2, iv b3, iv b4, rv pa, rv co, rv u, iv (1 : Int32), .unset, .unset, .unset, .unset, .unset, .unset] [])
    exact tail494 p1 p2 p3 p4 p5 p6 nn b0 b1 b2 b3 b4 pa co u kp ku pl rl q X0 hx hZ hw hby hlk hret hml hown e0 N0 Z0 V_pa V_u F_count E_co hr0 hr1 hr2 hr3 hr4 hp0 hp1 hp2 hp3 hp4 l1 l2
set_option maxRecDepth 65536 in
set_option maxHeartbeats 40000000 in
theorem tail440 {p : Program} {l : Launch} {e : Env} {s : State} {m : MethodId} {args : Array Value} {below : List Frame} {meth : Method} {c : Code} {T0 : State} {locs : List Loc} {Z : State} {a0 : Array Value} {h0 : Heap} {n0 : Nat} (p1 : Int32) (p2 : Int32) (p3 : Int32) (p4 : Int32) (p5 : Int32) (p6 : Int32) (nn : Int32) (b0 : Int32) (b1 : Int32) (b2 : Int32) (b3 : Int32) (b4 : Int32) (pa : Addr) (co : Addr) (u : Addr) (kp : ClassId) (ku : ClassId) (pl : List Value) (rl : List Value) (q : Int64)
    (X0 : Stand p l e room_1 s m args below meth c T0 locs (9) (60)) (hx : p.tables.exec = Jvm.exec) (hZ : Z.Warmed39 s.vm) (hw : ∀ d ∈ tables_1, d.before a0 Z = true) (hby : c.code = code) (hlk : meth.locks = false) (hret : meth.sig.returnType = some .boolean) (hml : c.maxLocals = 22) (hown : s.vm.findClass "com/example/borderline/borderline/BorderTableShiftedPinLaw" = some m.cls) (e0 : T0.heap = h0) (N0 : Fr n0 locs) (Z0 : n0 ≤ h0.size) (V_pa : Arv Z h0 pa kp .byte nn pl (.int (0 : Int32))) (V_u : Arv Z h0 u ku .int nn rl (.int (0 : Int32))) (F_count : Fld Z h0 co "com/example/borderline/borderline/Comparisons" "count" "J" (.long q)) (E_co : Exa Z h0 co "com/example/borderline/borderline/Comparisons") (hr0 : (0 : Int32) < nn → rl.getD ((0 : Int32)).toNatClampNeg (.int (0 : Int32)) = .int (-1 : Int32)) (hr1 : (1 : Int32) < nn → rl.getD ((1 : Int32)).toNatClampNeg (.int (0 : Int32)) = .int (0 : Int32)) (hr2 : (2 : Int32) < nn → rl.getD ((2 : Int32)).toNatClampNeg (.int (0 : Int32)) = .int (lg2 b0 b1)) (hr3 : (3 : Int32) < nn → rl.getD ((3 : Int32)).toNatClampNeg (.int (0 : Int32)) = .int (lg3 b0 b1 b2)) (hr4 : (4 : Int32) < nn → rl.getD ((4 : Int32)).toNatClampNeg (.int (0 : Int32)) = .int (lg4 b0 b1 b2 b3)) (hp0 : (0 : Int32) < nn → pl.getD ((0 : Int32)).toNatClampNeg (.int (0 : Int32)) = .int b0) (hp1 : (1 : Int32) < nn → pl.getD ((1 : Int32)).toNatClampNeg (.int (0 : Int32)) = .int b1) (hp2 : (2 : Int32) < nn → pl.getD ((2 : Int32)).toNatClampNeg (.int (0 : Int32)) = .int b2) (hp3 : (3 : Int32) < nn → pl.getD ((3 : Int32)).toNatClampNeg (.int (0 : Int32)) = .int b3) (hp4 : (4 : Int32) < nn → pl.getD ((4 : Int32)).toNatClampNeg (.int (0 : Int32)) = .int b4) (l1 : ¬ (lcmpW q ((maxV (nn - (2 : Int32)) (0 : Int32)).toInt64)) < 0) (l2 : ¬ (0 : Int32) < (lcmpW q ((maxV (((2 : Int32) * nn) - (4 : Int32)) (0 : Int32)).toInt64))) :
    Goes p e below (fun o U' => ∃ v L, o = .returned v ∧ Q0 n0 v U'.heap L ∧ FrameEnd s o U' L room_1.cells room_1.slots) (T0.setTop (mkF m 440 #[iv p1, iv p2, iv p3, iv p4, iv p5, iv p6, iv nn, iv b0, iv b1, iv b2, iv b3, iv b4, rv pa, rv co, rv u, iv (1 : Int32), .unset, .unset, .unset, .unset, .unset, .unset] [])) := by
  show Goes p e below _ (sF T0 m 440 #[iv p1, iv p2, iv p3, iv p4, iv p5, iv p6, iv nn, iv b0, iv b1, iv b2, iv b3, iv b4, rv pa, rv co, rv u, iv (1 : Int32), .unset, .unset, .unset, .unset, .unset, .unset] [])
  refine Goes.step ?_ (fun _ k => XS.iload X0.here hx rfl (hb hby at_440) rfl  k)
  show Goes p e below _ (sF T0 m 442 #[iv p1, iv p2, iv p3, iv p4, iv p5, iv p6, iv nn, iv b0, iv b1, iv b2, iv b3, iv b4, rv pa, rv co, rv u, iv (1 : Int32), .unset, .unset, .unset, .unset, .unset, .unset] [(.int nn)])
  refine Goes.step ?_ (fun _ k => XS.iconst X0.here hx rfl (hb hby at_442) k)
  show Goes p e below _ (sF T0 m 443 #[iv p1, iv p2, iv p3, iv p4, iv p5, iv p6, iv nn, iv b0, iv b1, iv b2, iv b3, iv b4, rv pa, rv co, rv u, iv (1 : Int32), .unset, .unset, .unset, .unset, .unset, .unset] [(.int (3 : Int32)), (.int nn)])
  by_cases hc443_1 : (3 : Int32) < nn
  · refine Goes.step ?_ (fun _ k => XS.icmpNo X0.here hx rfl (hb hby at_443) rfl (tlt hc443_1).2.2.2 k)
    show Goes p e below _ (sF T0 m 446 #[iv p1, iv p2, iv p3, iv p4, iv p5, iv p6, iv nn, iv b0, iv b1, iv b2, iv b3, iv b4, rv pa, rv co, rv u, iv (1 : Int32), .unset, .unset, .unset, .unset, .unset, .unset] [])
    refine Goes.step ?_ (fun _ k => XS.iload X0.here hx rfl (hb hby at_446) rfl  k)
    show Goes p e below _ (sF T0 m 448 #[iv p1, iv p2, iv p3, iv p4, iv p5, iv p6, iv nn, iv b0, iv b1, iv b2, iv b3, iv b4, rv pa, rv co, rv u, iv (1 : Int32), .unset, .unset, .unset, .unset, .unset, .unset] [(.int (1 : Int32))])
    refine Goes.step ?_ (fun _ k => XS.ifNo X0.here hx rfl (hb hby at_448) rfl ((if0 _ _).trans (feq (by decide : ¬ ((1 : Int32) = (0 : Int32)))).1) k)
    show Goes p e below _ (sF T0 m 451 #[iv p1, iv p2, iv p3, iv p4, iv p5, iv p6, iv nn, iv b0, iv b1, iv b2, iv b3, iv b4, rv pa, rv co, rv u, iv (1 : Int32), .unset, .unset, .unset, .unset, .unset, .unset] [])
    refine Goes.step ?_ (fun _ k => XS.aload X0.here hx rfl (hb hby at_451) rfl rfl k)
    show Goes p e below _ (sF T0 m 453 #[iv p1, iv p2, iv p3, iv p4, iv p5, iv p6, iv nn, iv b0, iv b1, iv b2, iv b3, iv b4, rv pa, rv co, rv u, iv (1 : Int32), .unset, .unset, .unset, .unset, .unset, .unset] [(.ref pa)])
    refine Goes.step ?_ (fun _ k => XS.iconst X0.here hx rfl (hb hby at_453) k)
    show Goes p e below _ (sF T0 m 454 #[iv p1, iv p2, iv p3, iv p4, iv p5, iv p6, iv nn, iv b0, iv b1, iv b2, iv b3, iv b4, rv pa, rv co, rv u, iv (1 : Int32), .unset, .unset, .unset, .unset, .unset, .unset] [(.int (3 : Int32)), (.ref pa)])
    obtain ⟨cl2, Ar2, q2, S2, N_2, H2, G2⟩ := id V_pa
    have hin3 : ¬ ((3 : Int32) < 0 ∨ cl2.slots.size ≤ ((3 : Int32)).toNatClampNeg) := inb_of S2 ⟨by decide, hc443_1⟩
    have hat3 : cl2.slots[((3 : Int32)).toNatClampNeg]? = some (.int b3) := H2.at hin3 (hp3 hc443_1)
    refine Goes.step ?_ (fun _ k => X0.baloadBytes hx (j := (3 : Int32)) (v := (.int b3)) (by rw [e0]; exact Ar2.1) (State.isArrayOf_alike hZ.alike Ar2.2.1) Ar2.2.2 hin3 hat3 (g := (mkF m 454 #[iv p1, iv p2, iv p3, iv p4, iv p5, iv p6, iv nn, iv b0, iv b1, iv b2, iv b3, iv b4, rv pa, rv co, rv u, iv (1 : Int32), .unset, .unset, .unset, .unset, .unset, .unset] [(.int (3 : Int32)), (.ref pa)])) rfl rfl (hb hby at_454) _ k)
    show Goes p e below _ (sF T0 m 455 #[iv p1, iv p2, iv p3, iv p4, iv p5, iv p6, iv nn, iv b0, iv b1, iv b2, iv b3, iv b4, rv pa, rv co, rv u, iv (1 : Int32), .unset, .unset, .unset, .unset, .unset, .unset] [(.int b3)])
    refine Goes.step ?_ (fun _ k => XS.iload X0.here hx rfl (hb hby at_455) rfl  k)
    show Goes p e below _ (sF T0 m 457 #[iv p1, iv p2, iv p3, iv p4, iv p5, iv p6, iv nn, iv b0, iv b1, iv b2, iv b3, iv b4, rv pa, rv co, rv u, iv (1 : Int32), .unset, .unset, .unset, .unset, .unset, .unset] [(.int b3), (.int b3)])
    refine Goes.step ?_ (fun _ k => XS.icmpNo X0.here hx rfl (hb hby at_457) rfl (teq (rfl : b3 = b3)).2 k)
    show Goes p e below _ (sF T0 m 460 #[iv p1, iv p2, iv p3, iv p4, iv p5, iv p6, iv nn, iv b0, iv b1, iv b2, iv b3, iv b4, rv pa, rv co, rv u, iv (1 : Int32), .unset, .unset, .unset, .unset, .unset, .unset] [])
    refine Goes.step ?_ (fun _ k => XS.iconst X0.here hx rfl (hb hby at_460) k)
    show Goes p e below _ (sF T0 m 461 #[iv p1, iv p2, iv p3, iv p4, iv p5, iv p6, iv nn, iv b0, iv b1, iv b2, iv b3, iv b4, rv pa, rv co, rv u, iv (1 : Int32), .unset, .unset, .unset, .unset, .unset, .unset] [(.int (1 : Int32))])
    refine Goes.step ?_ (fun _ k => XS.goto X0.here hx rfl (pc0 := 461) (pc' := 465) rfl (hb hby at_461) (by decide) (by decide) k)
    show Goes p e below _ (sF T0 m 465 #[iv p1, iv p2, iv p3, iv p4, iv p5, iv p6, iv nn, iv b0, iv b1, iv b2, iv b3, iv b4, rv pa, rv co, rv u, iv (1 : Int32), .unset, .unset, .unset, .unset, .unset, .unset] [(.int (1 : Int32))])
    refine Goes.step ?_ (fun _ k => XS.istore X0.here hx rfl (hb hby at_465) rfl (l' := #[iv p1, iv p2, iv p3, iv p4, iv p5, iv p6, iv nn, iv b0, iv b1, iv b2, iv b3, iv b4, rv pa, rv co, rv u, iv (1 : Int32), .unset, .unset, .unset, .unset, .unset, .unset]) rfl k)
    show Goes p e below _ (sF T0 m 467 #[iv p1, iv p2, iv p3, iv p4, iv p5, iv p6, iv nn, iv b0, iv b1, iv b2, iv b3, iv b4, rv pa, rv co, rv u, iv (1 : Int32), .unset, .unset, .unset, .unset, .unset, .unset] [])
    exact tail467 p1 p2 p3 p4 p5 p6 nn b0 b1 b2 b3 b4 pa co u kp ku pl rl q X0 hx hZ hw hby hlk hret hml hown e0 N0 Z0 V_pa V_u F_count E_co hr0 hr1 hr2 hr3 hr4 hp0 hp1 hp2 hp3 hp4 l1 l2
  · refine Goes.step ?_ (fun _ k => XS.icmpYes X0.here hx rfl (pc0 := 443) (pc' := 467) rfl (hb hby at_443) rfl (flt hc443_1).2.2.2 (by decide) (by decide) k)
    show Goes p e below _ (sF T0 m 467 #[iv p1, iv p2, iv p3, iv p4, iv p5, iv p6, iv nn, iv b0, iv b1, iv b2, iv b3, iv b4, rv pa, rv co, rv u, iv (1 : Int32), .unset, .unset, .unset, .unset, .unset, .unset] [])
    exact tail467 p1 p2 p3 p4 p5 p6 nn b0 b1 b2 b3 b4 pa co u kp ku pl rl q X0 hx hZ hw hby hlk hret hml hown e0 N0 Z0 V_pa V_u F_count E_co hr0 hr1 hr2 hr3 hr4 hp0 hp1 hp2 hp3 hp4 l1 l2
set_option maxRecDepth 65536 in
set_option maxHeartbeats 40000000 in
theorem tail413 {p : Program} {l : Launch} {e : Env} {s : State} {m : MethodId} {args : Array Value} {below : List Frame} {meth : Method} {c : Code} {T0 : State} {locs : List Loc} {Z : State} {a0 : Array Value} {h0 : Heap} {n0 : Nat} (p1 : Int32) (p2 : Int32) (p3 : Int32) (p4 : Int32) (p5 : Int32) (p6 : Int32) (nn : Int32) (b0 : Int32) (b1 : Int32) (b2 : Int32) (b3 : Int32) (b4 : Int32) (pa : Addr) (co : Addr) (u : Addr) (kp : ClassId) (ku : ClassId) (pl : List Value) (rl : List Value) (q : Int64)
    (X0 : Stand p l e room_1 s m args below meth c T0 locs (9) (60)) (hx : p.tables.exec = Jvm.exec) (hZ : Z.Warmed39 s.vm) (hw : ∀ d ∈ tables_1, d.before a0 Z = true) (hby : c.code = code) (hlk : meth.locks = false) (hret : meth.sig.returnType = some .boolean) (hml : c.maxLocals = 22) (hown : s.vm.findClass "com/example/borderline/borderline/BorderTableShiftedPinLaw" = some m.cls) (e0 : T0.heap = h0) (N0 : Fr n0 locs) (Z0 : n0 ≤ h0.size) (V_pa : Arv Z h0 pa kp .byte nn pl (.int (0 : Int32))) (V_u : Arv Z h0 u ku .int nn rl (.int (0 : Int32))) (F_count : Fld Z h0 co "com/example/borderline/borderline/Comparisons" "count" "J" (.long q)) (E_co : Exa Z h0 co "com/example/borderline/borderline/Comparisons") (hr0 : (0 : Int32) < nn → rl.getD ((0 : Int32)).toNatClampNeg (.int (0 : Int32)) = .int (-1 : Int32)) (hr1 : (1 : Int32) < nn → rl.getD ((1 : Int32)).toNatClampNeg (.int (0 : Int32)) = .int (0 : Int32)) (hr2 : (2 : Int32) < nn → rl.getD ((2 : Int32)).toNatClampNeg (.int (0 : Int32)) = .int (lg2 b0 b1)) (hr3 : (3 : Int32) < nn → rl.getD ((3 : Int32)).toNatClampNeg (.int (0 : Int32)) = .int (lg3 b0 b1 b2)) (hr4 : (4 : Int32) < nn → rl.getD ((4 : Int32)).toNatClampNeg (.int (0 : Int32)) = .int (lg4 b0 b1 b2 b3)) (hp0 : (0 : Int32) < nn → pl.getD ((0 : Int32)).toNatClampNeg (.int (0 : Int32)) = .int b0) (hp1 : (1 : Int32) < nn → pl.getD ((1 : Int32)).toNatClampNeg (.int (0 : Int32)) = .int b1) (hp2 : (2 : Int32) < nn → pl.getD ((2 : Int32)).toNatClampNeg (.int (0 : Int32)) = .int b2) (hp3 : (3 : Int32) < nn → pl.getD ((3 : Int32)).toNatClampNeg (.int (0 : Int32)) = .int b3) (hp4 : (4 : Int32) < nn → pl.getD ((4 : Int32)).toNatClampNeg (.int (0 : Int32)) = .int b4) (l1 : ¬ (lcmpW q ((maxV (nn - (2 : Int32)) (0 : Int32)).toInt64)) < 0) (l2 : ¬ (0 : Int32) < (lcmpW q ((maxV (((2 : Int32) * nn) - (4 : Int32)) (0 : Int32)).toInt64))) :
    Goes p e below (fun o U' => ∃ v L, o = .returned v ∧ Q0 n0 v U'.heap L ∧ FrameEnd s o U' L room_1.cells room_1.slots) (T0.setTop (mkF m 413 #[iv p1, iv p2, iv p3, iv p4, iv p5, iv p6, iv nn, iv b0, iv b1, iv b2, iv b3, iv b4, rv pa, rv co, rv u, iv (1 : Int32), .unset, .unset, .unset, .unset, .unset, .unset] [])) := by
  show Goes p e below _ (sF T0 m 413 #[iv p1, iv p2, iv p3, iv p4, iv p5, iv p6, iv nn, iv b0, iv b1, iv b2, iv b3, iv b4, rv pa, rv co, rv u, iv (1 : Int32), .unset, .unset, .unset, .unset, .unset, .unset] [])
  refine Goes.step ?_ (fun _ k => XS.iload X0.here hx rfl (hb hby at_413) rfl  k)
  show Goes p e below _ (sF T0 m 415 #[iv p1, iv p2, iv p3, iv p4, iv p5, iv p6, iv nn, iv b0, iv b1, iv b2, iv b3, iv b4, rv pa, rv co, rv u, iv (1 : Int32), .unset, .unset, .unset, .unset, .unset, .unset] [(.int nn)])
  refine Goes.step ?_ (fun _ k => XS.iconst X0.here hx rfl (hb hby at_415) k)
  show Goes p e below _ (sF T0 m 416 #[iv p1, iv p2, iv p3, iv p4, iv p5, iv p6, iv nn, iv b0, iv b1, iv b2, iv b3, iv b4, rv pa, rv co, rv u, iv (1 : Int32), .unset, .unset, .unset, .unset, .unset, .unset] [(.int (2 : Int32)), (.int nn)])
  by_cases hc416_1 : (2 : Int32) < nn
  · refine Goes.step ?_ (fun _ k => XS.icmpNo X0.here hx rfl (hb hby at_416) rfl (tlt hc416_1).2.2.2 k)
    show Goes p e below _ (sF T0 m 419 #[iv p1, iv p2, iv p3, iv p4, iv p5, iv p6, iv nn, iv b0, iv b1, iv b2, iv b3, iv b4, rv pa, rv co, rv u, iv (1 : Int32), .unset, .unset, .unset, .unset, .unset, .unset] [])
    refine Goes.step ?_ (fun _ k => XS.iload X0.here hx rfl (hb hby at_419) rfl  k)
    show Goes p e below _ (sF T0 m 421 #[iv p1, iv p2, iv p3, iv p4, iv p5, iv p6, iv nn, iv b0, iv b1, iv b2, iv b3, iv b4, rv pa, rv co, rv u, iv (1 : Int32), .unset, .unset, .unset, .unset, .unset, .unset] [(.int (1 : Int32))])
    refine Goes.step ?_ (fun _ k => XS.ifNo X0.here hx rfl (hb hby at_421) rfl ((if0 _ _).trans (feq (by decide : ¬ ((1 : Int32) = (0 : Int32)))).1) k)
    show Goes p e below _ (sF T0 m 424 #[iv p1, iv p2, iv p3, iv p4, iv p5, iv p6, iv nn, iv b0, iv b1, iv b2, iv b3, iv b4, rv pa, rv co, rv u, iv (1 : Int32), .unset, .unset, .unset, .unset, .unset, .unset] [])
    refine Goes.step ?_ (fun _ k => XS.aload X0.here hx rfl (hb hby at_424) rfl rfl k)
    show Goes p e below _ (sF T0 m 426 #[iv p1, iv p2, iv p3, iv p4, iv p5, iv p6, iv nn, iv b0, iv b1, iv b2, iv b3, iv b4, rv pa, rv co, rv u, iv (1 : Int32), .unset, .unset, .unset, .unset, .unset, .unset] [(.ref pa)])
    refine Goes.step ?_ (fun _ k => XS.iconst X0.here hx rfl (hb hby at_426) k)
    show Goes p e below _ (sF T0 m 427 #[iv p1, iv p2, iv p3, iv p4, iv p5, iv p6, iv nn, iv b0, iv b1, iv b2, iv b3, iv b4, rv pa, rv co, rv u, iv (1 : Int32), .unset, .unset, .unset, .unset, .unset, .unset] [(.int (2 : Int32)), (.ref pa)])
    obtain ⟨cl2, Ar2, q2, S2, N_2, H2, G2⟩ := id V_pa
    have hin3 : ¬ ((2 : Int32) < 0 ∨ cl2.slots.size ≤ ((2 : Int32)).toNatClampNeg) := inb_of S2 ⟨by decide, hc416_1⟩
    have hat3 : cl2.slots[((2 : Int32)).toNatClampNeg]? = some (.int b2) := H2.at hin3 (hp2 hc416_1)
    refine Goes.step ?_ (fun _ k => X0.baloadBytes hx (j := (2 : Int32)) (v := (.int b2)) (by rw [e0]; exact Ar2.1) (State.isArrayOf_alike hZ.alike Ar2.2.1) Ar2.2.2 hin3 hat3 (g := (mkF m 427 #[iv p1, iv p2, iv p3, iv p4, iv p5, iv p6, iv nn, iv b0, iv b1, iv b2, iv b3, iv b4, rv pa, rv co, rv u, iv (1 : Int32), .unset, .unset, .unset, .unset, .unset, .unset] [(.int (2 : Int32)), (.ref pa)])) rfl rfl (hb hby at_427) _ k)
    show Goes p e below _ (sF T0 m 428 #[iv p1, iv p2, iv p3, iv p4, iv p5, iv p6, iv nn, iv b0, iv b1, iv b2, iv b3, iv b4, rv pa, rv co, rv u, iv (1 : Int32), .unset, .unset, .unset, .unset, .unset, .unset] [(.int b2)])
    refine Goes.step ?_ (fun _ k => XS.iload X0.here hx rfl (hb hby at_428) rfl  k)
    show Goes p e below _ (sF T0 m 430 #[iv p1, iv p2, iv p3, iv p4, iv p5, iv p6, iv nn, iv b0, iv b1, iv b2, iv b3, iv b4, rv pa, rv co, rv u, iv (1 : Int32), .unset, .unset, .unset, .unset, .unset, .unset] [(.int b2), (.int b2)])
    refine Goes.step ?_ (fun _ k => XS.icmpNo X0.here hx rfl (hb hby at_430) rfl (teq (rfl : b2 = b2)).2 k)
    show Goes p e below _ (sF T0 m 433 #[iv p1, iv p2, iv p3, iv p4, iv p5, iv p6, iv nn, iv b0, iv b1, iv b2, iv b3, iv b4, rv pa, rv co, rv u, iv (1 : Int32), .unset, .unset, .unset, .unset, .unset, .unset] [])
    refine Goes.step ?_ (fun _ k => XS.iconst X0.here hx rfl (hb hby at_433) k)
    show Goes p e below _ (sF T0 m 434 #[iv p1, iv p2, iv p3, iv p4, iv p5, iv p6, iv nn, iv b0, iv b1, iv b2, iv b3, iv b4, rv pa, rv co, rv u, iv (1 : Int32), .unset, .unset, .unset, .unset, .unset, .unset] [(.int (1 : Int32))])
    refine Goes.step ?_ (fun _ k => XS.goto X0.here hx rfl (pc0 := 434) (pc' := 438) rfl (hb hby at_434) (by decide) (by decide) k)
    show Goes p e below _ (sF T0 m 438 #[iv p1, iv p2, iv p3, iv p4, iv p5, iv p6, iv nn, iv b0, iv b1, iv b2, iv b3, iv b4, rv pa, rv co, rv u, iv (1 : Int32), .unset, .unset, .unset, .unset, .unset, .unset] [(.int (1 : Int32))])
    refine Goes.step ?_ (fun _ k => XS.istore X0.here hx rfl (hb hby at_438) rfl (l' := #[iv p1, iv p2, iv p3, iv p4, iv p5, iv p6, iv nn, iv b0, iv b1, iv b2, iv b3, iv b4, rv pa, rv co, rv u, iv (1 : Int32), .unset, .unset, .unset, .unset, .unset, .unset]) rfl k)
    show Goes p e below _ (sF T0 m 440 #[iv p1, iv p2, iv p3, iv p4, iv p5, iv p6, iv nn, iv b0, iv b1, iv b2, iv b3, iv b4, rv pa, rv co, rv u, iv (1 : Int32), .unset, .unset, .unset, .unset, .unset, .unset] [])
    exact tail440 p1 p2 p3 p4 p5 p6 nn b0 b1 b2 b3 b4 pa co u kp ku pl rl q X0 hx hZ hw hby hlk hret hml hown e0 N0 Z0 V_pa V_u F_count E_co hr0 hr1 hr2 hr3 hr4 hp0 hp1 hp2 hp3 hp4 l1 l2
  · refine Goes.step ?_ (fun _ k => XS.icmpYes X0.here hx rfl (pc0 := 416) (pc' := 440) rfl (hb hby at_416) rfl (flt hc416_1).2.2.2 (by decide) (by decide) k)
    show Goes p e below _ (sF T0 m 440 #[iv p1, iv p2, iv p3, iv p4, iv p5, iv p6, iv nn, iv b0, iv b1, iv b2, iv b3, iv b4, rv pa, rv co, rv u, iv (1 : Int32), .unset, .unset, .unset, .unset, .unset, .unset] [])
    exact tail440 p1 p2 p3 p4 p5 p6 nn b0 b1 b2 b3 b4 pa co u kp ku pl rl q X0 hx hZ hw hby hlk hret hml hown e0 N0 Z0 V_pa V_u F_count E_co hr0 hr1 hr2 hr3 hr4 hp0 hp1 hp2 hp3 hp4 l1 l2
set_option maxRecDepth 65536 in
set_option maxHeartbeats 40000000 in
theorem tail386 {p : Program} {l : Launch} {e : Env} {s : State} {m : MethodId} {args : Array Value} {below : List Frame} {meth : Method} {c : Code} {T0 : State} {locs : List Loc} {Z : State} {a0 : Array Value} {h0 : Heap} {n0 : Nat} (p1 : Int32) (p2 : Int32) (p3 : Int32) (p4 : Int32) (p5 : Int32) (p6 : Int32) (nn : Int32) (b0 : Int32) (b1 : Int32) (b2 : Int32) (b3 : Int32) (b4 : Int32) (pa : Addr) (co : Addr) (u : Addr) (kp : ClassId) (ku : ClassId) (pl : List Value) (rl : List Value) (q : Int64)
    (X0 : Stand p l e room_1 s m args below meth c T0 locs (9) (60)) (hx : p.tables.exec = Jvm.exec) (hZ : Z.Warmed39 s.vm) (hw : ∀ d ∈ tables_1, d.before a0 Z = true) (hby : c.code = code) (hlk : meth.locks = false) (hret : meth.sig.returnType = some .boolean) (hml : c.maxLocals = 22) (hown : s.vm.findClass "com/example/borderline/borderline/BorderTableShiftedPinLaw" = some m.cls) (e0 : T0.heap = h0) (N0 : Fr n0 locs) (Z0 : n0 ≤ h0.size) (V_pa : Arv Z h0 pa kp .byte nn pl (.int (0 : Int32))) (V_u : Arv Z h0 u ku .int nn rl (.int (0 : Int32))) (F_count : Fld Z h0 co "com/example/borderline/borderline/Comparisons" "count" "J" (.long q)) (E_co : Exa Z h0 co "com/example/borderline/borderline/Comparisons") (hr0 : (0 : Int32) < nn → rl.getD ((0 : Int32)).toNatClampNeg (.int (0 : Int32)) = .int (-1 : Int32)) (hr1 : (1 : Int32) < nn → rl.getD ((1 : Int32)).toNatClampNeg (.int (0 : Int32)) = .int (0 : Int32)) (hr2 : (2 : Int32) < nn → rl.getD ((2 : Int32)).toNatClampNeg (.int (0 : Int32)) = .int (lg2 b0 b1)) (hr3 : (3 : Int32) < nn → rl.getD ((3 : Int32)).toNatClampNeg (.int (0 : Int32)) = .int (lg3 b0 b1 b2)) (hr4 : (4 : Int32) < nn → rl.getD ((4 : Int32)).toNatClampNeg (.int (0 : Int32)) = .int (lg4 b0 b1 b2 b3)) (hp0 : (0 : Int32) < nn → pl.getD ((0 : Int32)).toNatClampNeg (.int (0 : Int32)) = .int b0) (hp1 : (1 : Int32) < nn → pl.getD ((1 : Int32)).toNatClampNeg (.int (0 : Int32)) = .int b1) (hp2 : (2 : Int32) < nn → pl.getD ((2 : Int32)).toNatClampNeg (.int (0 : Int32)) = .int b2) (hp3 : (3 : Int32) < nn → pl.getD ((3 : Int32)).toNatClampNeg (.int (0 : Int32)) = .int b3) (hp4 : (4 : Int32) < nn → pl.getD ((4 : Int32)).toNatClampNeg (.int (0 : Int32)) = .int b4) (l1 : ¬ (lcmpW q ((maxV (nn - (2 : Int32)) (0 : Int32)).toInt64)) < 0) (l2 : ¬ (0 : Int32) < (lcmpW q ((maxV (((2 : Int32) * nn) - (4 : Int32)) (0 : Int32)).toInt64))) :
    Goes p e below (fun o U' => ∃ v L, o = .returned v ∧ Q0 n0 v U'.heap L ∧ FrameEnd s o U' L room_1.cells room_1.slots) (T0.setTop (mkF m 386 #[iv p1, iv p2, iv p3, iv p4, iv p5, iv p6, iv nn, iv b0, iv b1, iv b2, iv b3, iv b4, rv pa, rv co, rv u, iv (1 : Int32), .unset, .unset, .unset, .unset, .unset, .unset] [])) := by
  show Goes p e below _ (sF T0 m 386 #[iv p1, iv p2, iv p3, iv p4, iv p5, iv p6, iv nn, iv b0, iv b1, iv b2, iv b3, iv b4, rv pa, rv co, rv u, iv (1 : Int32), .unset, .unset, .unset, .unset, .unset, .unset] [])
  refine Goes.step ?_ (fun _ k => XS.iload X0.here hx rfl (hb hby at_386) rfl  k)
  show Goes p e below _ (sF T0 m 388 #[iv p1, iv p2, iv p3, iv p4, iv p5, iv p6, iv nn, iv b0, iv b1, iv b2, iv b3, iv b4, rv pa, rv co, rv u, iv (1 : Int32), .unset, .unset, .unset, .unset, .unset, .unset] [(.int nn)])
  refine Goes.step ?_ (fun _ k => XS.iconst X0.here hx rfl (hb hby at_388) k)
  show Goes p e below _ (sF T0 m 389 #[iv p1, iv p2, iv p3, iv p4, iv p5, iv p6, iv nn, iv b0, iv b1, iv b2, iv b3, iv b4, rv pa, rv co, rv u, iv (1 : Int32), .unset, .unset, .unset, .unset, .unset, .unset] [(.int (1 : Int32)), (.int nn)])
  by_cases hc389_1 : (1 : Int32) < nn
  · refine Goes.step ?_ (fun _ k => XS.icmpNo X0.here hx rfl (hb hby at_389) rfl (tlt hc389_1).2.2.2 k)
    show Goes p e below _ (sF T0 m 392 #[iv p1, iv p2, iv p3, iv p4, iv p5, iv p6, iv nn, iv b0, iv b1, iv b2, iv b3, iv b4, rv pa, rv co, rv u, iv (1 : Int32), .unset, .unset, .unset, .unset, .unset, .unset] [])
    refine Goes.step ?_ (fun _ k => XS.iload X0.here hx rfl (hb hby at_392) rfl  k)
    show Goes p e below _ (sF T0 m 394 #[iv p1, iv p2, iv p3, iv p4, iv p5, iv p6, iv nn, iv b0, iv b1, iv b2, iv b3, iv b4, rv pa, rv co, rv u, iv (1 : Int32), .unset, .unset, .unset, .unset, .unset, .unset] [(.int (1 : Int32))])
    refine Goes.step ?_ (fun _ k => XS.ifNo X0.here hx rfl (hb hby at_394) rfl ((if0 _ _).trans (feq (by decide : ¬ ((1 : Int32) = (0 : Int32)))).1) k)
    show Goes p e below _ (sF T0 m 397 #[iv p1, iv p2, iv p3, iv p4, iv p5, iv p6, iv nn, iv b0, iv b1, iv b2, iv b3, iv b4, rv pa, rv co, rv u, iv (1 : Int32), .unset, .unset, .unset, .unset, .unset, .unset] [])
    refine Goes.step ?_ (fun _ k => XS.aload X0.here hx rfl (hb hby at_397) rfl rfl k)
    show Goes p e below _ (sF T0 m 399 #[iv p1, iv p2, iv p3, iv p4, iv p5, iv p6, iv nn, iv b0, iv b1, iv b2, iv b3, iv b4, rv pa, rv co, rv u, iv (1 : Int32), .unset, .unset, .unset, .unset, .unset, .unset] [(.ref pa)])
    refine Goes.step ?_ (fun _ k => XS.iconst X0.here hx rfl (hb hby at_399) k)
    show Goes p e below _ (sF T0 m 400 #[iv p1, iv p2, iv p3, iv p4, iv p5, iv p6, iv nn, iv b0, iv b1, iv b2, iv b3, iv b4, rv pa, rv co, rv u, iv (1 : Int32), .unset, .unset, .unset, .unset, .unset, .unset] [(.int (1 : Int32)), (.ref pa)])
    obtain ⟨cl2, Ar2, q2, S2, N_2, H2, G2⟩ := id V_pa
    have hin3 : ¬ ((1 : Int32) < 0 ∨ cl2.slots.size ≤ ((1 : Int32)).toNatClampNeg) := inb_of S2 ⟨by decide, hc389_1⟩
    have hat3 : cl2.slots[((1 : Int32)).toNatClampNeg]? = some (.int b1) := H2.at hin3 (hp1 hc389_1)
    refine Goes.step ?_ (fun _ k => X0.baloadBytes hx (j := (1 : Int32)) (v := (.int b1)) (by rw [e0]; exact Ar2.1) (State.isArrayOf_alike hZ.alike Ar2.2.1) Ar2.2.2 hin3 hat3 (g := (mkF m 400 #[iv p1, iv p2, iv p3, iv p4, iv p5, iv p6, iv nn, iv b0, iv b1, iv b2, iv b3, iv b4, rv pa, rv co, rv u, iv (1 : Int32), .unset, .unset, .unset, .unset, .unset, .unset] [(.int (1 : Int32)), (.ref pa)])) rfl rfl (hb hby at_400) _ k)
    show Goes p e below _ (sF T0 m 401 #[iv p1, iv p2, iv p3, iv p4, iv p5, iv p6, iv nn, iv b0, iv b1, iv b2, iv b3, iv b4, rv pa, rv co, rv u, iv (1 : Int32), .unset, .unset, .unset, .unset, .unset, .unset] [(.int b1)])
    refine Goes.step ?_ (fun _ k => XS.iload X0.here hx rfl (hb hby at_401) rfl  k)
    show Goes p e below _ (sF T0 m 403 #[iv p1, iv p2, iv p3, iv p4, iv p5, iv p6, iv nn, iv b0, iv b1, iv b2, iv b3, iv b4, rv pa, rv co, rv u, iv (1 : Int32), .unset, .unset, .unset, .unset, .unset, .unset] [(.int b1), (.int b1)])
    refine Goes.step ?_ (fun _ k => XS.icmpNo X0.here hx rfl (hb hby at_403) rfl (teq (rfl : b1 = b1)).2 k)
    show Goes p e below _ (sF T0 m 406 #[iv p1, iv p2, iv p3, iv p4, iv p5, iv p6, iv nn, iv b0, iv b1, iv b2, iv b3, iv b4, rv pa, rv co, rv u, iv (1 : Int32), .unset, .unset, .unset, .unset, .unset, .unset] [])
    refine Goes.step ?_ (fun _ k => XS.iconst X0.here hx rfl (hb hby at_406) k)
    show Goes p e below _ (sF T0 m 407 #[iv p1, iv p2, iv p3, iv p4, iv p5, iv p6, iv nn, iv b0, iv b1, iv b2, iv b3, iv b4, rv pa, rv co, rv u, iv (1 : Int32), .unset, .unset, .unset, .unset, .unset, .unset] [(.int (1 : Int32))])
    refine Goes.step ?_ (fun _ k => XS.goto X0.here hx rfl (pc0 := 407) (pc' := 411) rfl (hb hby at_407) (by decide) (by decide) k)
    show Goes p e below _ (sF T0 m 411 #[iv p1, iv p2, iv p3, iv p4, iv p5, iv p6, iv nn, iv b0, iv b1, iv b2, iv b3, iv b4, rv pa, rv co, rv u, iv (1 : Int32), .unset, .unset, .unset, .unset, .unset, .unset] [(.int (1 : Int32))])
    refine Goes.step ?_ (fun _ k => XS.istore X0.here hx rfl (hb hby at_411) rfl (l' := #[iv p1, iv p2, iv p3, iv p4, iv p5, iv p6, iv nn, iv b0, iv b1, iv b2, iv b3, iv b4, rv pa, rv co, rv u, iv (1 : Int32), .unset, .unset, .unset, .unset, .unset, .unset]) rfl k)
    show Goes p e below _ (sF T0 m 413 #[iv p1, iv p2, iv p3, iv p4, iv p5, iv p6, iv nn, iv b0, iv b1, iv b2, iv b3, iv b4, rv pa, rv co, rv u, iv (1 : Int32), .unset, .unset, .unset, .unset, .unset, .unset] [])
    exact tail413 p1 p2 p3 p4 p5 p6 nn b0 b1 b2 b3 b4 pa co u kp ku pl rl q X0 hx hZ hw hby hlk hret hml hown e0 N0 Z0 V_pa V_u F_count E_co hr0 hr1 hr2 hr3 hr4 hp0 hp1 hp2 hp3 hp4 l1 l2
  · refine Goes.step ?_ (fun _ k => XS.icmpYes X0.here hx rfl (pc0 := 389) (pc' := 413) rfl (hb hby at_389) rfl (flt hc389_1).2.2.2 (by decide) (by decide) k)
    show Goes p e below _ (sF T0 m 413 #[iv p1, iv p2, iv p3, iv p4, iv p5, iv p6, iv nn, iv b0, iv b1, iv b2, iv b3, iv b4, rv pa, rv co, rv u, iv (1 : Int32), .unset, .unset, .unset, .unset, .unset, .unset] [])
    exact tail413 p1 p2 p3 p4 p5 p6 nn b0 b1 b2 b3 b4 pa co u kp ku pl rl q X0 hx hZ hw hby hlk hret hml hown e0 N0 Z0 V_pa V_u F_count E_co hr0 hr1 hr2 hr3 hr4 hp0 hp1 hp2 hp3 hp4 l1 l2
set_option maxRecDepth 65536 in
set_option maxHeartbeats 40000000 in
theorem tail360 {p : Program} {l : Launch} {e : Env} {s : State} {m : MethodId} {args : Array Value} {below : List Frame} {meth : Method} {c : Code} {T0 : State} {locs : List Loc} {Z : State} {a0 : Array Value} {h0 : Heap} {n0 : Nat} (p1 : Int32) (p2 : Int32) (p3 : Int32) (p4 : Int32) (p5 : Int32) (p6 : Int32) (nn : Int32) (b0 : Int32) (b1 : Int32) (b2 : Int32) (b3 : Int32) (b4 : Int32) (pa : Addr) (co : Addr) (u : Addr) (kp : ClassId) (ku : ClassId) (pl : List Value) (rl : List Value) (q : Int64)
    (X0 : Stand p l e room_1 s m args below meth c T0 locs (9) (60)) (hx : p.tables.exec = Jvm.exec) (hZ : Z.Warmed39 s.vm) (hw : ∀ d ∈ tables_1, d.before a0 Z = true) (hby : c.code = code) (hlk : meth.locks = false) (hret : meth.sig.returnType = some .boolean) (hml : c.maxLocals = 22) (hown : s.vm.findClass "com/example/borderline/borderline/BorderTableShiftedPinLaw" = some m.cls) (e0 : T0.heap = h0) (N0 : Fr n0 locs) (Z0 : n0 ≤ h0.size) (V_pa : Arv Z h0 pa kp .byte nn pl (.int (0 : Int32))) (V_u : Arv Z h0 u ku .int nn rl (.int (0 : Int32))) (F_count : Fld Z h0 co "com/example/borderline/borderline/Comparisons" "count" "J" (.long q)) (E_co : Exa Z h0 co "com/example/borderline/borderline/Comparisons") (hr0 : (0 : Int32) < nn → rl.getD ((0 : Int32)).toNatClampNeg (.int (0 : Int32)) = .int (-1 : Int32)) (hr1 : (1 : Int32) < nn → rl.getD ((1 : Int32)).toNatClampNeg (.int (0 : Int32)) = .int (0 : Int32)) (hr2 : (2 : Int32) < nn → rl.getD ((2 : Int32)).toNatClampNeg (.int (0 : Int32)) = .int (lg2 b0 b1)) (hr3 : (3 : Int32) < nn → rl.getD ((3 : Int32)).toNatClampNeg (.int (0 : Int32)) = .int (lg3 b0 b1 b2)) (hr4 : (4 : Int32) < nn → rl.getD ((4 : Int32)).toNatClampNeg (.int (0 : Int32)) = .int (lg4 b0 b1 b2 b3)) (hp0 : (0 : Int32) < nn → pl.getD ((0 : Int32)).toNatClampNeg (.int (0 : Int32)) = .int b0) (hp1 : (1 : Int32) < nn → pl.getD ((1 : Int32)).toNatClampNeg (.int (0 : Int32)) = .int b1) (hp2 : (2 : Int32) < nn → pl.getD ((2 : Int32)).toNatClampNeg (.int (0 : Int32)) = .int b2) (hp3 : (3 : Int32) < nn → pl.getD ((3 : Int32)).toNatClampNeg (.int (0 : Int32)) = .int b3) (hp4 : (4 : Int32) < nn → pl.getD ((4 : Int32)).toNatClampNeg (.int (0 : Int32)) = .int b4) (l1 : ¬ (lcmpW q ((maxV (nn - (2 : Int32)) (0 : Int32)).toInt64)) < 0) (l2 : ¬ (0 : Int32) < (lcmpW q ((maxV (((2 : Int32) * nn) - (4 : Int32)) (0 : Int32)).toInt64))) :
    Goes p e below (fun o U' => ∃ v L, o = .returned v ∧ Q0 n0 v U'.heap L ∧ FrameEnd s o U' L room_1.cells room_1.slots) (T0.setTop (mkF m 360 #[iv p1, iv p2, iv p3, iv p4, iv p5, iv p6, iv nn, iv b0, iv b1, iv b2, iv b3, iv b4, rv pa, rv co, rv u, iv (1 : Int32), .unset, .unset, .unset, .unset, .unset, .unset] [])) := by
  show Goes p e below _ (sF T0 m 360 #[iv p1, iv p2, iv p3, iv p4, iv p5, iv p6, iv nn, iv b0, iv b1, iv b2, iv b3, iv b4, rv pa, rv co, rv u, iv (1 : Int32), .unset, .unset, .unset, .unset, .unset, .unset] [])
  refine Goes.step ?_ (fun _ k => XS.iload X0.here hx rfl (hb hby at_360) rfl  k)
  show Goes p e below _ (sF T0 m 362 #[iv p1, iv p2, iv p3, iv p4, iv p5, iv p6, iv nn, iv b0, iv b1, iv b2, iv b3, iv b4, rv pa, rv co, rv u, iv (1 : Int32), .unset, .unset, .unset, .unset, .unset, .unset] [(.int nn)])
  by_cases hc362_1 : (0 : Int32) < nn
  · refine Goes.step ?_ (fun _ k => XS.ifNo X0.here hx rfl (hb hby at_362) rfl ((if0 _ _).trans (tlt hc362_1).2.2.2) k)
    show Goes p e below _ (sF T0 m 365 #[iv p1, iv p2, iv p3, iv p4, iv p5, iv p6, iv nn, iv b0, iv b1, iv b2, iv b3, iv b4, rv pa, rv co, rv u, iv (1 : Int32), .unset, .unset, .unset, .unset, .unset, .unset] [])
    refine Goes.step ?_ (fun _ k => XS.iload X0.here hx rfl (hb hby at_365) rfl  k)
    show Goes p e below _ (sF T0 m 367 #[iv p1, iv p2, iv p3, iv p4, iv p5, iv p6, iv nn, iv b0, iv b1, iv b2, iv b3, iv b4, rv pa, rv co, rv u, iv (1 : Int32), .unset, .unset, .unset, .unset, .unset, .unset] [(.int (1 : Int32))])
    refine Goes.step ?_ (fun _ k => XS.ifNo X0.here hx rfl (hb hby at_367) rfl ((if0 _ _).trans (feq (by decide : ¬ ((1 : Int32) = (0 : Int32)))).1) k)
    show Goes p e below _ (sF T0 m 370 #[iv p1, iv p2, iv p3, iv p4, iv p5, iv p6, iv nn, iv b0, iv b1, iv b2, iv b3, iv b4, rv pa, rv co, rv u, iv (1 : Int32), .unset, .unset, .unset, .unset, .unset, .unset] [])
    refine Goes.step ?_ (fun _ k => XS.aload X0.here hx rfl (hb hby at_370) rfl rfl k)
    show Goes p e below _ (sF T0 m 372 #[iv p1, iv p2, iv p3, iv p4, iv p5, iv p6, iv nn, iv b0, iv b1, iv b2, iv b3, iv b4, rv pa, rv co, rv u, iv (1 : Int32), .unset, .unset, .unset, .unset, .unset, .unset] [(.ref pa)])
    refine Goes.step ?_ (fun _ k => XS.iconst X0.here hx rfl (hb hby at_372) k)
    show Goes p e below _ (sF T0 m 373 #[iv p1, iv p2, iv p3, iv p4, iv p5, iv p6, iv nn, iv b0, iv b1, iv b2, iv b3, iv b4, rv pa, rv co, rv u, iv (1 : Int32), .unset, .unset, .unset, .unset, .unset, .unset] [(.int (0 : Int32)), (.ref pa)])
    obtain ⟨cl2, Ar2, q2, S2, N_2, H2, G2⟩ := id V_pa
    have hin3 : ¬ ((0 : Int32) < 0 ∨ cl2.slots.size ≤ ((0 : Int32)).toNatClampNeg) := inb_of S2 ⟨by decide, hc362_1⟩
    have hat3 : cl2.slots[((0 : Int32)).toNatClampNeg]? = some (.int b0) := H2.at hin3 (hp0 hc362_1)
    refine Goes.step ?_ (fun _ k => X0.baloadBytes hx (j := (0 : Int32)) (v := (.int b0)) (by rw [e0]; exact Ar2.1) (State.isArrayOf_alike hZ.alike Ar2.2.1) Ar2.2.2 hin3 hat3 (g := (mkF m 373 #[iv p1, iv p2, iv p3, iv p4, iv p5, iv p6, iv nn, iv b0, iv b1, iv b2, iv b3, iv b4, rv pa, rv co, rv u, iv (1 : Int32), .unset, .unset, .unset, .unset, .unset, .unset] [(.int (0 : Int32)), (.ref pa)])) rfl rfl (hb hby at_373) _ k)
    show Goes p e below _ (sF T0 m 374 #[iv p1, iv p2, iv p3, iv p4, iv p5, iv p6, iv nn, iv b0, iv b1, iv b2, iv b3, iv b4, rv pa, rv co, rv u, iv (1 : Int32), .unset, .unset, .unset, .unset, .unset, .unset] [(.int b0)])
    refine Goes.step ?_ (fun _ k => XS.iload X0.here hx rfl (hb hby at_374) rfl  k)
    show Goes p e below _ (sF T0 m 376 #[iv p1, iv p2, iv p3, iv p4, iv p5, iv p6, iv nn, iv b0, iv b1, iv b2, iv b3, iv b4, rv pa, rv co, rv u, iv (1 : Int32), .unset, .unset, .unset, .unset, .unset, .unset] [(.int b0), (.int b0)])
    refine Goes.step ?_ (fun _ k => XS.icmpNo X0.here hx rfl (hb hby at_376) rfl (teq (rfl : b0 = b0)).2 k)
    show Goes p e below _ (sF T0 m 379 #[iv p1, iv p2, iv p3, iv p4, iv p5, iv p6, iv nn, iv b0, iv b1, iv b2, iv b3, iv b4, rv pa, rv co, rv u, iv (1 : Int32), .unset, .unset, .unset, .unset, .unset, .unset] [])
    refine Goes.step ?_ (fun _ k => XS.iconst X0.here hx rfl (hb hby at_379) k)
    show Goes p e below _ (sF T0 m 380 #[iv p1, iv p2, iv p3, iv p4, iv p5, iv p6, iv nn, iv b0, iv b1, iv b2, iv b3, iv b4, rv pa, rv co, rv u, iv (1 : Int32), .unset, .unset, .unset, .unset, .unset, .unset] [(.int (1 : Int32))])
    refine Goes.step ?_ (fun _ k => XS.goto X0.here hx rfl (pc0 := 380) (pc' := 384) rfl (hb hby at_380) (by decide) (by decide) k)
    show Goes p e below _ (sF T0 m 384 #[iv p1, iv p2, iv p3, iv p4, iv p5, iv p6, iv nn, iv b0, iv b1, iv b2, iv b3, iv b4, rv pa, rv co, rv u, iv (1 : Int32), .unset, .unset, .unset, .unset, .unset, .unset] [(.int (1 : Int32))])
    refine Goes.step ?_ (fun _ k => XS.istore X0.here hx rfl (hb hby at_384) rfl (l' := #[iv p1, iv p2, iv p3, iv p4, iv p5, iv p6, iv nn, iv b0, iv b1, iv b2, iv b3, iv b4, rv pa, rv co, rv u, iv (1 : Int32), .unset, .unset, .unset, .unset, .unset, .unset]) rfl k)
    show Goes p e below _ (sF T0 m 386 #[iv p1, iv p2, iv p3, iv p4, iv p5, iv p6, iv nn, iv b0, iv b1, iv b2, iv b3, iv b4, rv pa, rv co, rv u, iv (1 : Int32), .unset, .unset, .unset, .unset, .unset, .unset] [])
    exact tail386 p1 p2 p3 p4 p5 p6 nn b0 b1 b2 b3 b4 pa co u kp ku pl rl q X0 hx hZ hw hby hlk hret hml hown e0 N0 Z0 V_pa V_u F_count E_co hr0 hr1 hr2 hr3 hr4 hp0 hp1 hp2 hp3 hp4 l1 l2
  · refine Goes.step ?_ (fun _ k => XS.ifYes X0.here hx rfl (pc0 := 362) (pc' := 386) rfl (hb hby at_362) rfl ((if0 _ _).trans (flt hc362_1).2.2.2) (by decide) (by decide) k)
    show Goes p e below _ (sF T0 m 386 #[iv p1, iv p2, iv p3, iv p4, iv p5, iv p6, iv nn, iv b0, iv b1, iv b2, iv b3, iv b4, rv pa, rv co, rv u, iv (1 : Int32), .unset, .unset, .unset, .unset, .unset, .unset] [])
    exact tail386 p1 p2 p3 p4 p5 p6 nn b0 b1 b2 b3 b4 pa co u kp ku pl rl q X0 hx hZ hw hby hlk hret hml hown e0 N0 Z0 V_pa V_u F_count E_co hr0 hr1 hr2 hr3 hr4 hp0 hp1 hp2 hp3 hp4 l1 l2
theorem pd__28_5bBI_29I : parseMethodDescriptor "([BI)I" = some ⟨[(.array .byte), .int], some .int⟩ := by decide +kernel
set_option maxRecDepth 65536 in
set_option maxHeartbeats 40000000 in
theorem tail329 {p : Program} {l : Launch} {e : Env} {s : State} {m : MethodId} {args : Array Value} {below : List Frame} {meth : Method} {c : Code} {T0 : State} {locs : List Loc} {Z : State} {a0 : Array Value} {h0 : Heap} {n0 : Nat} (p1 : Int32) (p2 : Int32) (p3 : Int32) (p4 : Int32) (p5 : Int32) (p6 : Int32) (nn : Int32) (b0 : Int32) (b1 : Int32) (b2 : Int32) (b3 : Int32) (b4 : Int32) (pa : Addr) (co : Addr) (u : Addr) (kp : ClassId) (ku : ClassId) (pl : List Value) (rl : List Value) (q : Int64)
    (X0 : Stand p l e room_1 s m args below meth c T0 locs (9) (60)) (hx : p.tables.exec = Jvm.exec) (hZ : Z.Warmed39 s.vm) (hw : ∀ d ∈ tables_1, d.before a0 Z = true) (hby : c.code = code) (hlk : meth.locks = false) (hret : meth.sig.returnType = some .boolean) (hml : c.maxLocals = 22) (hown : s.vm.findClass "com/example/borderline/borderline/BorderTableShiftedPinLaw" = some m.cls) (e0 : T0.heap = h0) (N0 : Fr n0 locs) (Z0 : n0 ≤ h0.size) (V_pa : Arv Z h0 pa kp .byte nn pl (.int (0 : Int32))) (V_u : Arv Z h0 u ku .int nn rl (.int (0 : Int32))) (F_count : Fld Z h0 co "com/example/borderline/borderline/Comparisons" "count" "J" (.long q)) (E_co : Exa Z h0 co "com/example/borderline/borderline/Comparisons") (hr0 : (0 : Int32) < nn → rl.getD ((0 : Int32)).toNatClampNeg (.int (0 : Int32)) = .int (-1 : Int32)) (hr1 : (1 : Int32) < nn → rl.getD ((1 : Int32)).toNatClampNeg (.int (0 : Int32)) = .int (0 : Int32)) (hr2 : (2 : Int32) < nn → rl.getD ((2 : Int32)).toNatClampNeg (.int (0 : Int32)) = .int (lg2 b0 b1)) (hr3 : (3 : Int32) < nn → rl.getD ((3 : Int32)).toNatClampNeg (.int (0 : Int32)) = .int (lg3 b0 b1 b2)) (hr4 : (4 : Int32) < nn → rl.getD ((4 : Int32)).toNatClampNeg (.int (0 : Int32)) = .int (lg4 b0 b1 b2 b3)) (hp0 : (0 : Int32) < nn → pl.getD ((0 : Int32)).toNatClampNeg (.int (0 : Int32)) = .int b0) (hp1 : (1 : Int32) < nn → pl.getD ((1 : Int32)).toNatClampNeg (.int (0 : Int32)) = .int b1) (hp2 : (2 : Int32) < nn → pl.getD ((2 : Int32)).toNatClampNeg (.int (0 : Int32)) = .int b2) (hp3 : (3 : Int32) < nn → pl.getD ((3 : Int32)).toNatClampNeg (.int (0 : Int32)) = .int b3) (hp4 : (4 : Int32) < nn → pl.getD ((4 : Int32)).toNatClampNeg (.int (0 : Int32)) = .int b4) (l1 : ¬ (lcmpW q ((maxV (nn - (2 : Int32)) (0 : Int32)).toInt64)) < 0) (l2 : ¬ (0 : Int32) < (lcmpW q ((maxV (((2 : Int32) * nn) - (4 : Int32)) (0 : Int32)).toInt64))) :
    Goes p e below (fun o U' => ∃ v L, o = .returned v ∧ Q0 n0 v U'.heap L ∧ FrameEnd s o U' L room_1.cells room_1.slots) (T0.setTop (mkF m 329 #[iv p1, iv p2, iv p3, iv p4, iv p5, iv p6, iv nn, iv b0, iv b1, iv b2, iv b3, iv b4, rv pa, rv co, rv u, iv (1 : Int32), .unset, .unset, .unset, .unset, .unset, .unset] [])) := by
  show Goes p e below _ (sF T0 m 329 #[iv p1, iv p2, iv p3, iv p4, iv p5, iv p6, iv nn, iv b0, iv b1, iv b2, iv b3, iv b4, rv pa, rv co, rv u, iv (1 : Int32), .unset, .unset, .unset, .unset, .unset, .unset] [])
  refine Goes.step ?_ (fun _ k => XS.iload X0.here hx rfl (hb hby at_329) rfl  k)
  show Goes p e below _ (sF T0 m 331 #[iv p1, iv p2, iv p3, iv p4, iv p5, iv p6, iv nn, iv b0, iv b1, iv b2, iv b3, iv b4, rv pa, rv co, rv u, iv (1 : Int32), .unset, .unset, .unset, .unset, .unset, .unset] [(.int nn)])
  refine Goes.step ?_ (fun _ k => XS.iconst X0.here hx rfl (hb hby at_331) k)
  show Goes p e below _ (sF T0 m 332 #[iv p1, iv p2, iv p3, iv p4, iv p5, iv p6, iv nn, iv b0, iv b1, iv b2, iv b3, iv b4, rv pa, rv co, rv u, iv (1 : Int32), .unset, .unset, .unset, .unset, .unset, .unset] [(.int (4 : Int32)), (.int nn)])
  by_cases hc332_1 : (4 : Int32) < nn
  · refine Goes.step ?_ (fun _ k => XS.icmpNo X0.here hx rfl (hb hby at_332) rfl (tlt hc332_1).2.2.2 k)
    show Goes p e below _ (sF T0 m 335 #[iv p1, iv p2, iv p3, iv p4, iv p5, iv p6, iv nn, iv b0, iv b1, iv b2, iv b3, iv b4, rv pa, rv co, rv u, iv (1 : Int32), .unset, .unset, .unset, .unset, .unset, .unset] [])
    refine Goes.step ?_ (fun _ k => XS.iload X0.here hx rfl (hb hby at_335) rfl  k)
    show Goes p e below _ (sF T0 m 337 #[iv p1, iv p2, iv p3, iv p4, iv p5, iv p6, iv nn, iv b0, iv b1, iv b2, iv b3, iv b4, rv pa, rv co, rv u, iv (1 : Int32), .unset, .unset, .unset, .unset, .unset, .unset] [(.int (1 : Int32))])
    refine Goes.step ?_ (fun _ k => XS.ifNo X0.here hx rfl (hb hby at_337) rfl ((if0 _ _).trans (feq (by decide : ¬ ((1 : Int32) = (0 : Int32)))).1) k)
    show Goes p e below _ (sF T0 m 340 #[iv p1, iv p2, iv p3, iv p4, iv p5, iv p6, iv nn, iv b0, iv b1, iv b2, iv b3, iv b4, rv pa, rv co, rv u, iv (1 : Int32), .unset, .unset, .unset, .unset, .unset, .unset] [])
    refine Goes.step ?_ (fun _ k => XS.aload X0.here hx rfl (hb hby at_340) rfl rfl k)
    show Goes p e below _ (sF T0 m 342 #[iv p1, iv p2, iv p3, iv p4, iv p5, iv p6, iv nn, iv b0, iv b1, iv b2, iv b3, iv b4, rv pa, rv co, rv u, iv (1 : Int32), .unset, .unset, .unset, .unset, .unset, .unset] [(.ref u)])
    refine Goes.step ?_ (fun _ k => XS.iconst X0.here hx rfl (hb hby at_342) k)
    show Goes p e below _ (sF T0 m 343 #[iv p1, iv p2, iv p3, iv p4, iv p5, iv p6, iv nn, iv b0, iv b1, iv b2, iv b3, iv b4, rv pa, rv co, rv u, iv (1 : Int32), .unset, .unset, .unset, .unset, .unset, .unset] [(.int (4 : Int32)), (.ref u)])
    obtain ⟨cl2, Ar2, q2, S2, N_2, H2, G2⟩ := id V_u
    have hin3 : ¬ ((4 : Int32) < 0 ∨ cl2.slots.size ≤ ((4 : Int32)).toNatClampNeg) := inb_of S2 ⟨by decide, hc332_1⟩
    have hat3 : cl2.slots[((4 : Int32)).toNatClampNeg]? = some (.int (lg4 b0 b1 b2 b3)) := H2.at hin3 (hr4 hc332_1)
    refine Goes.step ?_ (fun _ k => X0.iaload hx (j := (4 : Int32)) (v := (.int (lg4 b0 b1 b2 b3))) (by rw [e0]; exact Ar2.1) (State.isArrayOf_alike hZ.alike Ar2.2.1) Ar2.2.2 hin3 hat3 (g := (mkF m 343 #[iv p1, iv p2, iv p3, iv p4, iv p5, iv p6, iv nn, iv b0, iv b1, iv b2, iv b3, iv b4, rv pa, rv co, rv u, iv (1 : Int32), .unset, .unset, .unset, .unset, .unset, .unset] [(.int (4 : Int32)), (.ref u)])) rfl rfl (hb hby at_343) _ k)
    show Goes p e below _ (sF T0 m 344 #[iv p1, iv p2, iv p3, iv p4, iv p5, iv p6, iv nn, iv b0, iv b1, iv b2, iv b3, iv b4, rv pa, rv co, rv u, iv (1 : Int32), .unset, .unset, .unset, .unset, .unset, .unset] [(.int (lg4 b0 b1 b2 b3))])
    refine Goes.step ?_ (fun _ k => XS.aload X0.here hx rfl (hb hby at_344) rfl rfl k)
    show Goes p e below _ (sF T0 m 346 #[iv p1, iv p2, iv p3, iv p4, iv p5, iv p6, iv nn, iv b0, iv b1, iv b2, iv b3, iv b4, rv pa, rv co, rv u, iv (1 : Int32), .unset, .unset, .unset, .unset, .unset, .unset] [(.ref pa), (.int (lg4 b0 b1 b2 b3))])
    refine Goes.step ?_ (fun _ k => XS.iconst X0.here hx rfl (hb hby at_346) k)
    show Goes p e below _ (sF T0 m 347 #[iv p1, iv p2, iv p3, iv p4, iv p5, iv p6, iv nn, iv b0, iv b1, iv b2, iv b3, iv b4, rv pa, rv co, rv u, iv (1 : Int32), .unset, .unset, .unset, .unset, .unset, .unset] [(.int (4 : Int32)), (.ref pa), (.int (lg4 b0 b1 b2 b3))])
    obtain ⟨_, _, ⟨T4, L4, k4, n4⟩, -, X4, ⟨Lc4, hQ4, l4, y4, z4⟩, st4⟩ := Jvm.LawKit.callS X0 hx (y := (⟨"com/example/borderline/borderline/BorderTableShiftedPinLaw", "longest", "([BI)I"⟩ : MethodName)) hown (mvT hZ (hw _ (List.mem_of_getElem? (i := 48) rfl))) (mvT hZ (hw _ (List.mem_of_getElem? (i := 49) rfl))) (mvT hZ (hw _ (List.mem_of_getElem? (i := 50) rfl))) (mvT hZ (hw _ (List.mem_of_getElem? (i := 51) rfl))) (by decide) (backOf (W := 1) (rmLo4 l Z a0 hw [] pa kp nn pl b0 b1 b2 b3 h0 n0 Z0 V_pa ⟨by decide, (Int32.lt_trans (by decide : (0 : Int32) < (4 : Int32)) hc332_1)⟩ ⟨by decide, (Int32.lt_trans (by decide : (1 : Int32) < (4 : Int32)) hc332_1)⟩ ⟨by decide, (Int32.lt_trans (by decide : (2 : Int32) < (4 : Int32)) hc332_1)⟩ ⟨by decide, (Int32.lt_trans (by decide : (3 : Int32) < (4 : Int32)) hc332_1)⟩ (hp0 (Int32.lt_trans (by decide : (0 : Int32) < (4 : Int32)) hc332_1)) (hp1 (Int32.lt_trans (by decide : (1 : Int32) < (4 : Int32)) hc332_1)) (hp2 (Int32.lt_trans (by decide : (2 : Int32) < (4 : Int32)) hc332_1)) (hp3 (Int32.lt_trans (by decide : (3 : Int32) < (4 : Int32)) hc332_1))) hZ (hw _ (List.mem_of_getElem? (i := 51) rfl)) (hw _ (List.mem_of_getElem? (i := 50) rfl)) (by decide) (by decide)) (g := (mkF m 347 #[iv p1, iv p2, iv p3, iv p4, iv p5, iv p6, iv nn, iv b0, iv b1, iv b2, iv b3, iv b4, rv pa, rv co, rv u, iv (1 : Int32), .unset, .unset, .unset, .unset, .unset, .unset] [(.int (4 : Int32)), (.ref pa), (.int (lg4 b0 b1 b2 b3))])) rfl (by rw [hml]; rfl) (argsL := [(.ref pa), (.int (4 : Int32))]) (rest := [(.int (lg4 b0 b1 b2 b3))]) (lenOf pd__28_5bBI_29I rfl) rfl (by show 2 * 0 + _ ≤ _; exact Nat.le_of_eq rfl) (hb hby at_347) (fun _ _ => ⟨rfl, e0, (by decide : 9 + 0 ≤ _), (by decide : 60 + 0 ≤ _)⟩)
    dsimp only [Pt.U, Pt.locs, Pt.cells, Pt.slots] at X4 l4 y4 z4 st4 hQ4
    subst l4 y4 z4
    obtain ⟨rfl, N4q, e4⟩ := hQ4
    have N4 := Fr.app N0 N4q
    refine Goes.step ?_ st4
    show Goes p e below _ (sF T4 m 350 #[iv p1, iv p2, iv p3, iv p4, iv p5, iv p6, iv nn, iv b0, iv b1, iv b2, iv b3, iv b4, rv pa, rv co, rv u, iv (1 : Int32), .unset, .unset, .unset, .unset, .unset, .unset] [(.int (lg4 b0 b1 b2 b3)), (.int (lg4 b0 b1 b2 b3))])
    refine Goes.step ?_ (fun _ k => XS.icmpNo X4.here hx rfl (hb hby at_350) rfl (teq (rfl : (lg4 b0 b1 b2 b3) = (lg4 b0 b1 b2 b3))).2 k)
    show Goes p e below _ (sF T4 m 353 #[iv p1, iv p2, iv p3, iv p4, iv p5, iv p6, iv nn, iv b0, iv b1, iv b2, iv b3, iv b4, rv pa, rv co, rv u, iv (1 : Int32), .unset, .unset, .unset, .unset, .unset, .unset] [])
    refine Goes.step ?_ (fun _ k => XS.iconst X4.here hx rfl (hb hby at_353) k)
    show Goes p e below _ (sF T4 m 354 #[iv p1, iv p2, iv p3, iv p4, iv p5, iv p6, iv nn, iv b0, iv b1, iv b2, iv b3, iv b4, rv pa, rv co, rv u, iv (1 : Int32), .unset, .unset, .unset, .unset, .unset, .unset] [(.int (1 : Int32))])
    refine Goes.step ?_ (fun _ k => XS.goto X4.here hx rfl (pc0 := 354) (pc' := 358) rfl (hb hby at_354) (by decide) (by decide) k)
    show Goes p e below _ (sF T4 m 358 #[iv p1, iv p2, iv p3, iv p4, iv p5, iv p6, iv nn, iv b0, iv b1, iv b2, iv b3, iv b4, rv pa, rv co, rv u, iv (1 : Int32), .unset, .unset, .unset, .unset, .unset, .unset] [(.int (1 : Int32))])
    refine Goes.step ?_ (fun _ k => XS.istore X4.here hx rfl (hb hby at_358) rfl (l' := #[iv p1, iv p2, iv p3, iv p4, iv p5, iv p6, iv nn, iv b0, iv b1, iv b2, iv b3, iv b4, rv pa, rv co, rv u, iv (1 : Int32), .unset, .unset, .unset, .unset, .unset, .unset]) rfl k)
    show Goes p e below _ (sF T4 m 360 #[iv p1, iv p2, iv p3, iv p4, iv p5, iv p6, iv nn, iv b0, iv b1, iv b2, iv b3, iv b4, rv pa, rv co, rv u, iv (1 : Int32), .unset, .unset, .unset, .unset, .unset, .unset] [])
    exact tail360 p1 p2 p3 p4 p5 p6 nn b0 b1 b2 b3 b4 pa co u kp ku pl rl q X4 hx hZ hw hby hlk hret hml hown e4 N4 Z0 V_pa V_u F_count E_co hr0 hr1 hr2 hr3 hr4 hp0 hp1 hp2 hp3 hp4 l1 l2
  · refine Goes.step ?_ (fun _ k => XS.icmpYes X0.here hx rfl (pc0 := 332) (pc' := 360) rfl (hb hby at_332) rfl (flt hc332_1).2.2.2 (by decide) (by decide) k)
    show Goes p e below _ (sF T0 m 360 #[iv p1, iv p2, iv p3, iv p4, iv p5, iv p6, iv nn, iv b0, iv b1, iv b2, iv b3, iv b4, rv pa, rv co, rv u, iv (1 : Int32), .unset, .unset, .unset, .unset, .unset, .unset] [])
    exact tail360 p1 p2 p3 p4 p5 p6 nn b0 b1 b2 b3 b4 pa co u kp ku pl rl q X0 hx hZ hw hby hlk hret hml hown e0 N0 Z0 V_pa V_u F_count E_co hr0 hr1 hr2 hr3 hr4 hp0 hp1 hp2 hp3 hp4 l1 l2
set_option maxRecDepth 65536 in
set_option maxHeartbeats 40000000 in
theorem tail298 {p : Program} {l : Launch} {e : Env} {s : State} {m : MethodId} {args : Array Value} {below : List Frame} {meth : Method} {c : Code} {T0 : State} {locs : List Loc} {Z : State} {a0 : Array Value} {h0 : Heap} {n0 : Nat} (p1 : Int32) (p2 : Int32) (p3 : Int32) (p4 : Int32) (p5 : Int32) (p6 : Int32) (nn : Int32) (b0 : Int32) (b1 : Int32) (b2 : Int32) (b3 : Int32) (b4 : Int32) (pa : Addr) (co : Addr) (u : Addr) (kp : ClassId) (ku : ClassId) (pl : List Value) (rl : List Value) (q : Int64)
    (X0 : Stand p l e room_1 s m args below meth c T0 locs (9) (60)) (hx : p.tables.exec = Jvm.exec) (hZ : Z.Warmed39 s.vm) (hw : ∀ d ∈ tables_1, d.before a0 Z = true) (hby : c.code = code) (hlk : meth.locks = false) (hret : meth.sig.returnType = some .boolean) (hml : c.maxLocals = 22) (hown : s.vm.findClass "com/example/borderline/borderline/BorderTableShiftedPinLaw" = some m.cls) (e0 : T0.heap = h0) (N0 : Fr n0 locs) (Z0 : n0 ≤ h0.size) (V_pa : Arv Z h0 pa kp .byte nn pl (.int (0 : Int32))) (V_u : Arv Z h0 u ku .int nn rl (.int (0 : Int32))) (F_count : Fld Z h0 co "com/example/borderline/borderline/Comparisons" "count" "J" (.long q)) (E_co : Exa Z h0 co "com/example/borderline/borderline/Comparisons") (hr0 : (0 : Int32) < nn → rl.getD ((0 : Int32)).toNatClampNeg (.int (0 : Int32)) = .int (-1 : Int32)) (hr1 : (1 : Int32) < nn → rl.getD ((1 : Int32)).toNatClampNeg (.int (0 : Int32)) = .int (0 : Int32)) (hr2 : (2 : Int32) < nn → rl.getD ((2 : Int32)).toNatClampNeg (.int (0 : Int32)) = .int (lg2 b0 b1)) (hr3 : (3 : Int32) < nn → rl.getD ((3 : Int32)).toNatClampNeg (.int (0 : Int32)) = .int (lg3 b0 b1 b2)) (hr4 : (4 : Int32) < nn → rl.getD ((4 : Int32)).toNatClampNeg (.int (0 : Int32)) = .int (lg4 b0 b1 b2 b3)) (hp0 : (0 : Int32) < nn → pl.getD ((0 : Int32)).toNatClampNeg (.int (0 : Int32)) = .int b0) (hp1 : (1 : Int32) < nn → pl.getD ((1 : Int32)).toNatClampNeg (.int (0 : Int32)) = .int b1) (hp2 : (2 : Int32) < nn → pl.getD ((2 : Int32)).toNatClampNeg (.int (0 : Int32)) = .int b2) (hp3 : (3 : Int32) < nn → pl.getD ((3 : Int32)).toNatClampNeg (.int (0 : Int32)) = .int b3) (hp4 : (4 : Int32) < nn → pl.getD ((4 : Int32)).toNatClampNeg (.int (0 : Int32)) = .int b4) (l1 : ¬ (lcmpW q ((maxV (nn - (2 : Int32)) (0 : Int32)).toInt64)) < 0) (l2 : ¬ (0 : Int32) < (lcmpW q ((maxV (((2 : Int32) * nn) - (4 : Int32)) (0 : Int32)).toInt64))) :
    Goes p e below (fun o U' => ∃ v L, o = .returned v ∧ Q0 n0 v U'.heap L ∧ FrameEnd s o U' L room_1.cells room_1.slots) (T0.setTop (mkF m 298 #[iv p1, iv p2, iv p3, iv p4, iv p5, iv p6, iv nn, iv b0, iv b1, iv b2, iv b3, iv b4, rv pa, rv co, rv u, iv (1 : Int32), .unset, .unset, .unset, .unset, .unset, .unset] [])) := by
  show Goes p e below _ (sF T0 m 298 #[iv p1, iv p2, iv p3, iv p4, iv p5, iv p6, iv nn, iv b0, iv b1, iv b2, iv b3, iv b4, rv pa, rv co, rv u, iv (1 : Int32), .unset, .unset, .unset, .unset, .unset, .unset] [])
  refine Goes.step ?_ (fun _ k => XS.iload X0.here hx rfl (hb hby at_298) rfl  k)
  show Goes p e below _ (sF T0 m 300 #[iv p1, iv p2, iv p3, iv p4, iv p5, iv p6, iv nn, iv b0, iv b1, iv b2, iv b3, iv b4, rv pa, rv co, rv u, iv (1 : Int32), .unset, .unset, .unset, .unset, .unset, .unset] [(.int nn)])
  refine Goes.step ?_ (fun _ k => XS.iconst X0.here hx rfl (hb hby at_300) k)
  show Goes p e below _ (sF T0 m 301 #[iv p1, iv p2, iv p3, iv p4, iv p5, iv p6, iv nn, iv b0, iv b1, iv b2, iv b3, iv b4, rv pa, rv co, rv u, iv (1 : Int32), .unset, .unset, .unset, .unset, .unset, .unset] [(.int (3 : Int32)), (.int nn)])
  by_cases hc301_1 : (3 : Int32) < nn
  · refine Goes.step ?_ (fun _ k => XS.icmpNo X0.here hx rfl (hb hby at_301) rfl (tlt hc301_1).2.2.2 k)
    show Goes p e below _ (sF T0 m 304 #[iv p1, iv p2, iv p3, iv p4, iv p5, iv p6, iv nn, iv b0, iv b1, iv b2, iv b3, iv b4, rv pa, rv co, rv u, iv (1 : Int32), .unset, .unset, .unset, .unset, .unset, .unset] [])
    refine Goes.step ?_ (fun _ k => XS.iload X0.here hx rfl (hb hby at_304) rfl  k)
    show Goes p e below _ (sF T0 m 306 #[iv p1, iv p2, iv p3, iv p4, iv p5, iv p6, iv nn, iv b0, iv b1, iv b2, iv b3, iv b4, rv pa, rv co, rv u, iv (1 : Int32), .unset, .unset, .unset, .unset, .unset, .unset] [(.int (1 : Int32))])
    refine Goes.step ?_ (fun _ k => XS.ifNo X0.here hx rfl (hb hby at_306) rfl ((if0 _ _).trans (feq (by decide : ¬ ((1 : Int32) = (0 : Int32)))).1) k)
    show Goes p e below _ (sF T0 m 309 #[iv p1, iv p2, iv p3, iv p4, iv p5, iv p6, iv nn, iv b0, iv b1, iv b2, iv b3, iv b4, rv pa, rv co, rv u, iv (1 : Int32), .unset, .unset, .unset, .unset, .unset, .unset] [])
    refine Goes.step ?_ (fun _ k => XS.aload X0.here hx rfl (hb hby at_309) rfl rfl k)
    show Goes p e below _ (sF T0 m 311 #[iv p1, iv p2, iv p3, iv p4, iv p5, iv p6, iv nn, iv b0, iv b1, iv b2, iv b3, iv b4, rv pa, rv co, rv u, iv (1 : Int32), .unset, .unset, .unset, .unset, .unset, .unset] [(.ref u)])
    refine Goes.step ?_ (fun _ k => XS.iconst X0.here hx rfl (hb hby at_311) k)
    show Goes p e below _ (sF T0 m 312 #[iv p1, iv p2, iv p3, iv p4, iv p5, iv p6, iv nn, iv b0, iv b1, iv b2, iv b3, iv b4, rv pa, rv co, rv u, iv (1 : Int32), .unset, .unset, .unset, .unset, .unset, .unset] [(.int (3 : Int32)), (.ref u)])
    obtain ⟨cl2, Ar2, q2, S2, N_2, H2, G2⟩ := id V_u
    have hin3 : ¬ ((3 : Int32) < 0 ∨ cl2.slots.size ≤ ((3 : Int32)).toNatClampNeg) := inb_of S2 ⟨by decide, hc301_1⟩
    have hat3 : cl2.slots[((3 : Int32)).toNatClampNeg]? = some (.int (lg3 b0 b1 b2)) := H2.at hin3 (hr3 hc301_1)
    refine Goes.step ?_ (fun _ k => X0.iaload hx (j := (3 : Int32)) (v := (.int (lg3 b0 b1 b2))) (by rw [e0]; exact Ar2.1) (State.isArrayOf_alike hZ.alike Ar2.2.1) Ar2.2.2 hin3 hat3 (g := (mkF m 312 #[iv p1, iv p2, iv p3, iv p4, iv p5, iv p6, iv nn, iv b0, iv b1, iv b2, iv b3, iv b4, rv pa, rv co, rv u, iv (1 : Int32), .unset, .unset, .unset, .unset, .unset, .unset] [(.int (3 : Int32)), (.ref u)])) rfl rfl (hb hby at_312) _ k)
    show Goes p e below _ (sF T0 m 313 #[iv p1, iv p2, iv p3, iv p4, iv p5, iv p6, iv nn, iv b0, iv b1, iv b2, iv b3, iv b4, rv pa, rv co, rv u, iv (1 : Int32), .unset, .unset, .unset, .unset, .unset, .unset] [(.int (lg3 b0 b1 b2))])
    refine Goes.step ?_ (fun _ k => XS.aload X0.here hx rfl (hb hby at_313) rfl rfl k)
    show Goes p e below _ (sF T0 m 315 #[iv p1, iv p2, iv p3, iv p4, iv p5, iv p6, iv nn, iv b0, iv b1, iv b2, iv b3, iv b4, rv pa, rv co, rv u, iv (1 : Int32), .unset, .unset, .unset, .unset, .unset, .unset] [(.ref pa), (.int (lg3 b0 b1 b2))])
    refine Goes.step ?_ (fun _ k => XS.iconst X0.here hx rfl (hb hby at_315) k)
    show Goes p e below _ (sF T0 m 316 #[iv p1, iv p2, iv p3, iv p4, iv p5, iv p6, iv nn, iv b0, iv b1, iv b2, iv b3, iv b4, rv pa, rv co, rv u, iv (1 : Int32), .unset, .unset, .unset, .unset, .unset, .unset] [(.int (3 : Int32)), (.ref pa), (.int (lg3 b0 b1 b2))])
    obtain ⟨_, _, ⟨T4, L4, k4, n4⟩, -, X4, ⟨Lc4, hQ4, l4, y4, z4⟩, st4⟩ := Jvm.LawKit.callS X0 hx (y := (⟨"com/example/borderline/borderline/BorderTableShiftedPinLaw", "longest", "([BI)I"⟩ : MethodName)) hown (mvT hZ (hw _ (List.mem_of_getElem? (i := 48) rfl))) (mvT hZ (hw _ (List.mem_of_getElem? (i := 49) rfl))) (mvT hZ (hw _ (List.mem_of_getElem? (i := 50) rfl))) (mvT hZ (hw _ (List.mem_of_getElem? (i := 51) rfl))) (by decide) (backOf (W := 1) (rmLo3 l Z a0 hw [] pa kp nn pl b0 b1 b2 h0 n0 Z0 V_pa ⟨by decide, (Int32.lt_trans (by decide : (0 : Int32) < (3 : Int32)) hc301_1)⟩ ⟨by decide, (Int32.lt_trans (by decide : (1 : Int32) < (3 : Int32)) hc301_1)⟩ ⟨by decide, (Int32.lt_trans (by decide : (2 : Int32) < (3 : Int32)) hc301_1)⟩ (hp0 (Int32.lt_trans (by decide : (0 : Int32) < (3 : Int32)) hc301_1)) (hp1 (Int32.lt_trans (by decide : (1 : Int32) < (3 : Int32)) hc301_1)) (hp2 (Int32.lt_trans (by decide : (2 : Int32) < (3 : Int32)) hc301_1))) hZ (hw _ (List.mem_of_getElem? (i := 51) rfl)) (hw _ (List.mem_of_getElem? (i := 50) rfl)) (by decide) (by decide)) (g := (mkF m 316 #[iv p1, iv p2, iv p3, iv p4, iv p5, iv p6, iv nn, iv b0, iv b1, iv b2, iv b3, iv b4, rv pa, rv co, rv u, iv (1 : Int32), .unset, .unset, .unset, .unset, .unset, .unset] [(.int (3 : Int32)), (.ref pa), (.int (lg3 b0 b1 b2))])) rfl (by rw [hml]; rfl) (argsL := [(.ref pa), (.int (3 : Int32))]) (rest := [(.int (lg3 b0 b1 b2))]) (lenOf pd__28_5bBI_29I rfl) rfl (by show 2 * 0 + _ ≤ _; exact Nat.le_of_eq rfl) (hb hby at_316) (fun _ _ => ⟨rfl, e0, (by decide : 9 + 0 ≤ _), (by decide : 60 + 0 ≤ _)⟩)
    dsimp only [Pt.U, Pt.locs, Pt.cells, Pt.slots] at X4 l4 y4 z4 st4 hQ4
    subst l4 y4 z4
    obtain ⟨rfl, N4q, e4⟩ := hQ4
    have N4 := Fr.app N0 N4q
    refine Goes.step ?_ st4
    show Goes p e below _ (sF T4 m 319 #[iv p1, iv p2, iv p3, iv p4, iv p5, iv p6, iv nn, iv b0, iv b1, iv b2, iv b3, iv b4, rv pa, rv co, rv u, iv (1 : Int32), .unset, .unset, .unset, .unset, .unset, .unset] [(.int (lg3 b0 b1 b2)), (.int (lg3 b0 b1 b2))])
    refine Goes.step ?_ (fun _ k => XS.icmpNo X4.here hx rfl (hb hby at_319) rfl (teq (rfl : (lg3 b0 b1 b2) = (lg3 b0 b1 b2))).2 k)
    show Goes p e below _ (sF T4 m 322 #[iv p1, iv p2, iv p3, iv p4, iv p5, iv p6, iv nn, iv b0, iv b1, iv b2, iv b3, iv b4, rv pa, rv co, rv u, iv (1 : Int32), .unset, .unset, .unset, .unset, .unset, .unset] [])
    refine Goes.step ?_ (fun _ k => XS.iconst X4.here hx rfl (hb hby at_322) k)
    show Goes p e below _ (sF T4 m 323 #[iv p1, iv p2, iv p3, iv p4, iv p5, iv p6, iv nn, iv b0, iv b1, iv b2, iv b3, iv b4, rv pa, rv co, rv u, iv (1 : Int32), .unset, .unset, .unset, .unset, .unset, .unset] [(.int (1 : Int32))])
    refine Goes.step ?_ (fun _ k => XS.goto X4.here hx rfl (pc0 := 323) (pc' := 327) rfl (hb hby at_323) (by decide) (by decide) k)
    show Goes p e below _ (sF T4 m 327 #[iv p1, iv p2, iv p3, iv p4, iv p5, iv p6, iv nn, iv b0, iv b1, iv b2, iv b3, iv b4, rv pa, rv co, rv u, iv (1 : Int32), .unset, .unset, .unset, .unset, .unset, .unset] [(.int (1 : Int32))])
    refine Goes.step ?_ (fun _ k => XS.istore X4.here hx rfl (hb hby at_327) rfl (l' := #[iv p1, iv p2, iv p3, iv p4, iv p5, iv p6, iv nn, iv b0, iv b1, iv b2, iv b3, iv b4, rv pa, rv co, rv u, iv (1 : Int32), .unset, .unset, .unset, .unset, .unset, .unset]) rfl k)
    show Goes p e below _ (sF T4 m 329 #[iv p1, iv p2, iv p3, iv p4, iv p5, iv p6, iv nn, iv b0, iv b1, iv b2, iv b3, iv b4, rv pa, rv co, rv u, iv (1 : Int32), .unset, .unset, .unset, .unset, .unset, .unset] [])
    exact tail329 p1 p2 p3 p4 p5 p6 nn b0 b1 b2 b3 b4 pa co u kp ku pl rl q X4 hx hZ hw hby hlk hret hml hown e4 N4 Z0 V_pa V_u F_count E_co hr0 hr1 hr2 hr3 hr4 hp0 hp1 hp2 hp3 hp4 l1 l2
  · refine Goes.step ?_ (fun _ k => XS.icmpYes X0.here hx rfl (pc0 := 301) (pc' := 329) rfl (hb hby at_301) rfl (flt hc301_1).2.2.2 (by decide) (by decide) k)
    show Goes p e below _ (sF T0 m 329 #[iv p1, iv p2, iv p3, iv p4, iv p5, iv p6, iv nn, iv b0, iv b1, iv b2, iv b3, iv b4, rv pa, rv co, rv u, iv (1 : Int32), .unset, .unset, .unset, .unset, .unset, .unset] [])
    exact tail329 p1 p2 p3 p4 p5 p6 nn b0 b1 b2 b3 b4 pa co u kp ku pl rl q X0 hx hZ hw hby hlk hret hml hown e0 N0 Z0 V_pa V_u F_count E_co hr0 hr1 hr2 hr3 hr4 hp0 hp1 hp2 hp3 hp4 l1 l2
set_option maxRecDepth 65536 in
set_option maxHeartbeats 40000000 in
theorem tail267 {p : Program} {l : Launch} {e : Env} {s : State} {m : MethodId} {args : Array Value} {below : List Frame} {meth : Method} {c : Code} {T0 : State} {locs : List Loc} {Z : State} {a0 : Array Value} {h0 : Heap} {n0 : Nat} (p1 : Int32) (p2 : Int32) (p3 : Int32) (p4 : Int32) (p5 : Int32) (p6 : Int32) (nn : Int32) (b0 : Int32) (b1 : Int32) (b2 : Int32) (b3 : Int32) (b4 : Int32) (pa : Addr) (co : Addr) (u : Addr) (kp : ClassId) (ku : ClassId) (pl : List Value) (rl : List Value) (q : Int64)
    (X0 : Stand p l e room_1 s m args below meth c T0 locs (9) (60)) (hx : p.tables.exec = Jvm.exec) (hZ : Z.Warmed39 s.vm) (hw : ∀ d ∈ tables_1, d.before a0 Z = true) (hby : c.code = code) (hlk : meth.locks = false) (hret : meth.sig.returnType = some .boolean) (hml : c.maxLocals = 22) (hown : s.vm.findClass "com/example/borderline/borderline/BorderTableShiftedPinLaw" = some m.cls) (e0 : T0.heap = h0) (N0 : Fr n0 locs) (Z0 : n0 ≤ h0.size) (V_pa : Arv Z h0 pa kp .byte nn pl (.int (0 : Int32))) (V_u : Arv Z h0 u ku .int nn rl (.int (0 : Int32))) (F_count : Fld Z h0 co "com/example/borderline/borderline/Comparisons" "count" "J" (.long q)) (E_co : Exa Z h0 co "com/example/borderline/borderline/Comparisons") (hr0 : (0 : Int32) < nn → rl.getD ((0 : Int32)).toNatClampNeg (.int (0 : Int32)) = .int (-1 : Int32)) (hr1 : (1 : Int32) < nn → rl.getD ((1 : Int32)).toNatClampNeg (.int (0 : Int32)) = .int (0 : Int32)) (hr2 : (2 : Int32) < nn → rl.getD ((2 : Int32)).toNatClampNeg (.int (0 : Int32)) = .int (lg2 b0 b1)) (hr3 : (3 : Int32) < nn → rl.getD ((3 : Int32)).toNatClampNeg (.int (0 : Int32)) = .int (lg3 b0 b1 b2)) (hr4 : (4 : Int32) < nn → rl.getD ((4 : Int32)).toNatClampNeg (.int (0 : Int32)) = .int (lg4 b0 b1 b2 b3)) (hp0 : (0 : Int32) < nn → pl.getD ((0 : Int32)).toNatClampNeg (.int (0 : Int32)) = .int b0) (hp1 : (1 : Int32) < nn → pl.getD ((1 : Int32)).toNatClampNeg (.int (0 : Int32)) = .int b1) (hp2 : (2 : Int32) < nn → pl.getD ((2 : Int32)).toNatClampNeg (.int (0 : Int32)) = .int b2) (hp3 : (3 : Int32) < nn → pl.getD ((3 : Int32)).toNatClampNeg (.int (0 : Int32)) = .int b3) (hp4 : (4 : Int32) < nn → pl.getD ((4 : Int32)).toNatClampNeg (.int (0 : Int32)) = .int b4) (l1 : ¬ (lcmpW q ((maxV (nn - (2 : Int32)) (0 : Int32)).toInt64)) < 0) (l2 : ¬ (0 : Int32) < (lcmpW q ((maxV (((2 : Int32) * nn) - (4 : Int32)) (0 : Int32)).toInt64))) :
    Goes p e below (fun o U' => ∃ v L, o = .returned v ∧ Q0 n0 v U'.heap L ∧ FrameEnd s o U' L room_1.cells room_1.slots) (T0.setTop (mkF m 267 #[iv p1, iv p2, iv p3, iv p4, iv p5, iv p6, iv nn, iv b0, iv b1, iv b2, iv b3, iv b4, rv pa, rv co, rv u, iv (1 : Int32), .unset, .unset, .unset, .unset, .unset, .unset] [])) := by
  show Goes p e below _ (sF T0 m 267 #[iv p1, iv p2, iv p3, iv p4, iv p5, iv p6, iv nn, iv b0, iv b1, iv b2, iv b3, iv b4, rv pa, rv co, rv u, iv (1 : Int32), .unset, .unset, .unset, .unset, .unset, .unset] [])
  refine Goes.step ?_ (fun _ k => XS.iload X0.here hx rfl (hb hby at_267) rfl  k)
  show Goes p e below _ (sF T0 m 269 #[iv p1, iv p2, iv p3, iv p4, iv p5, iv p6, iv nn, iv b0, iv b1, iv b2, iv b3, iv b4, rv pa, rv co, rv u, iv (1 : Int32), .unset, .unset, .unset, .unset, .unset, .unset] [(.int nn)])
  refine Goes.step ?_ (fun _ k => XS.iconst X0.here hx rfl (hb hby at_269) k)
  show Goes p e below _ (sF T0 m 270 #[iv p1, iv p2, iv p3, iv p4, iv p5, iv p6, iv nn, iv b0, iv b1, iv b2, iv b3, iv b4, rv pa, rv co, rv u, iv (1 : Int32), .unset, .unset, .unset, .unset, .unset, .unset] [(.int (2 : Int32)), (.int nn)])
  by_cases hc270_1 : (2 : Int32) < nn
  · refine Goes.step ?_ (fun _ k => XS.icmpNo X0.here hx rfl (hb hby at_270) rfl (tlt hc270_1).2.2.2 k)
    show Goes p e below _ (sF T0 m 273 #[iv p1, iv p2, iv p3, iv p4, iv p5, iv p6, iv nn, iv b0, iv b1, iv b2, iv b3, iv b4, rv pa, rv co, rv u, iv (1 : Int32), .unset, .unset, .unset, .unset, .unset, .unset] [])
    refine Goes.step ?_ (fun _ k => XS.iload X0.here hx rfl (hb hby at_273) rfl  k)
    show Goes p e below _ (sF T0 m 275 #[iv p1, iv p2, iv p3, iv p4, iv p5, iv p6, iv nn, iv b0, iv b1, iv b2, iv b3, iv b4, rv pa, rv co, rv u, iv (1 : Int32), .unset, .unset, .unset, .unset, .unset, .unset] [(.int (1 : Int32))])
    refine Goes.step ?_ (fun _ k => XS.ifNo X0.here hx rfl (hb hby at_275) rfl ((if0 _ _).trans (feq (by decide : ¬ ((1 : Int32) = (0 : Int32)))).1) k)
    show Goes p e below _ (sF T0 m 278 #[iv p1, iv p2, iv p3, iv p4, iv p5, iv p6, iv nn, iv b0, iv b1, iv b2, iv b3, iv b4, rv pa, rv co, rv u, iv (1 : Int32), .unset, .unset, .unset, .unset, .unset, .unset] [])
    refine Goes.step ?_ (fun _ k => XS.aload X0.here hx rfl (hb hby at_278) rfl rfl k)
    show Goes p e below _ (sF T0 m 280 #[iv p1, iv p2, iv p3, iv p4, iv p5, iv p6, iv nn, iv b0, iv b1, iv b2, iv b3, iv b4, rv pa, rv co, rv u, iv (1 : Int32), .unset, .unset, .unset, .unset, .unset, .unset] [(.ref u)])
    refine Goes.step ?_ (fun _ k => XS.iconst X0.here hx rfl (hb hby at_280) k)
    show Goes p e below _ (sF T0 m 281 #[iv p1, iv p2, iv p3, iv p4, iv p5, iv p6, iv nn, iv b0, iv b1, iv b2, iv b3, iv b4, rv pa, rv co, rv u, iv (1 : Int32), .unset, .unset, .unset, .unset, .unset, .unset] [(.int (2 : Int32)), (.ref u)])
    obtain ⟨cl2, Ar2, q2, S2, N_2, H2, G2⟩ := id V_u
    have hin3 : ¬ ((2 : Int32) < 0 ∨ cl2.slots.size ≤ ((2 : Int32)).toNatClampNeg) := inb_of S2 ⟨by decide, hc270_1⟩
    have hat3 : cl2.slots[((2 : Int32)).toNatClampNeg]? = some (.int (lg2 b0 b1)) := H2.at hin3 (hr2 hc270_1)
    refine Goes.step ?_ (fun _ k => X0.iaload hx (j := (2 : Int32)) (v := (.int (lg2 b0 b1))) (by rw [e0]; exact Ar2.1) (State.isArrayOf_alike hZ.alike Ar2.2.1) Ar2.2.2 hin3 hat3 (g := (mkF m 281 #[iv p1, iv p2, iv p3, iv p4, iv p5, iv p6, iv nn, iv b0, iv b1, iv b2, iv b3, iv b4, rv pa, rv co, rv u, iv (1 : Int32), .unset, .unset, .unset, .unset, .unset, .unset] [(.int (2 : Int32)), (.ref u)])) rfl rfl (hb hby at_281) _ k)
    show Goes p e below _ (sF T0 m 282 #[iv p1, iv p2, iv p3, iv p4, iv p5, iv p6, iv nn, iv b0, iv b1, iv b2, iv b3, iv b4, rv pa, rv co, rv u, iv (1 : Int32), .unset, .unset, .unset, .unset, .unset, .unset] [(.int (lg2 b0 b1))])
    refine Goes.step ?_ (fun _ k => XS.aload X0.here hx rfl (hb hby at_282) rfl rfl k)
    show Goes p e below _ (sF T0 m 284 #[iv p1, iv p2, iv p3, iv p4, iv p5, iv p6, iv nn, iv b0, iv b1, iv b2, iv b3, iv b4, rv pa, rv co, rv u, iv (1 : Int32), .unset, .unset, .unset, .unset, .unset, .unset] [(.ref pa), (.int (lg2 b0 b1))])
    refine Goes.step ?_ (fun _ k => XS.iconst X0.here hx rfl (hb hby at_284) k)
    show Goes p e below _ (sF T0 m 285 #[iv p1, iv p2, iv p3, iv p4, iv p5, iv p6, iv nn, iv b0, iv b1, iv b2, iv b3, iv b4, rv pa, rv co, rv u, iv (1 : Int32), .unset, .unset, .unset, .unset, .unset, .unset] [(.int (2 : Int32)), (.ref pa), (.int (lg2 b0 b1))])
    obtain ⟨_, _, ⟨T4, L4, k4, n4⟩, -, X4, ⟨Lc4, hQ4, l4, y4, z4⟩, st4⟩ := Jvm.LawKit.callS X0 hx (y := (⟨"com/example/borderline/borderline/BorderTableShiftedPinLaw", "longest", "([BI)I"⟩ : MethodName)) hown (mvT hZ (hw _ (List.mem_of_getElem? (i := 48) rfl))) (mvT hZ (hw _ (List.mem_of_getElem? (i := 49) rfl))) (mvT hZ (hw _ (List.mem_of_getElem? (i := 50) rfl))) (mvT hZ (hw _ (List.mem_of_getElem? (i := 51) rfl))) (by decide) (backOf (W := 1) (rmLo2 l Z a0 hw [] pa kp nn pl b0 b1 h0 n0 Z0 V_pa ⟨by decide, (Int32.lt_trans (by decide : (0 : Int32) < (2 : Int32)) hc270_1)⟩ ⟨by decide, (Int32.lt_trans (by decide : (1 : Int32) < (2 : Int32)) hc270_1)⟩ (hp0 (Int32.lt_trans (by decide : (0 : Int32) < (2 : Int32)) hc270_1)) (hp1 (Int32.lt_trans (by decide : (1 : Int32) < (2 : Int32)) hc270_1))) hZ (hw _ (List.mem_of_getElem? (i := 51) rfl)) (hw _ (List.mem_of_getElem? (i := 50) rfl)) (by decide) (by decide)) (g := (mkF m 285 #[iv p1, iv p2, iv p3, iv p4, iv p5, iv p6, iv nn, iv b0, iv b1, iv b2, iv b3, iv b4, rv pa, rv co, rv u, iv (1 : Int32), .unset, .unset, .unset, .unset, .unset, .unset] [(.int (2 : Int32)), (.ref pa), (.int (lg2 b0 b1))])) rfl (by rw [hml]; rfl) (argsL := [(.ref pa), (.int (2 : Int32))]) (rest := [(.int (lg2 b0 b1))]) (lenOf pd__28_5bBI_29I rfl) rfl (by show 2 * 0 + _ ≤ _; exact Nat.le_of_eq rfl) (hb hby at_285) (fun _ _ => ⟨rfl, e0, (by decide : 9 + 0 ≤ _), (by decide : 60 + 0 ≤ _)⟩)
    dsimp only [Pt.U, Pt.locs, Pt.cells, Pt.slots] at X4 l4 y4 z4 st4 hQ4
    subst l4 y4 z4
    obtain ⟨rfl, N4q, e4⟩ := hQ4
    have N4 := Fr.app N0 N4q
    refine Goes.step ?_ st4
    show Goes p e below _ (sF T4 m 288 #[iv p1, iv p2, iv p3, iv p4, iv p5, iv p6, iv nn, iv b0, iv b1, iv b2, iv b3, iv b4, rv pa, rv co, rv u, iv (1 : Int32), .unset, .unset, .unset, .unset, .unset, .unset] [(.int (lg2 b0 b1)), (.int (lg2 b0 b1))])
    refine Goes.step ?_ (fun _ k => XS.icmpNo X4.here hx rfl (hb hby at_288) rfl (teq (rfl : (lg2 b0 b1) = (lg2 b0 b1))).2 k)
    show Goes p e below _ (sF T4 m 291 #[iv p1, iv p2, iv p3, iv p4, iv p5, iv p6, iv nn, iv b0, iv b1, iv b2, iv b3, iv b4, rv pa, rv co, rv u, iv (1 : Int32), .unset, .unset, .unset, .unset, .unset, .unset] [])
    refine Goes.step ?_ (fun _ k => XS.iconst X4.here hx rfl (hb hby at_291) k)
    show Goes p e below _ (sF T4 m 292 #[iv p1, iv p2, iv p3, iv p4, iv p5, iv p6, iv nn, iv b0, iv b1, iv b2, iv b3, iv b4, rv pa, rv co, rv u, iv (1 : Int32), .unset, .unset, .unset, .unset, .unset, .unset] [(.int (1 : Int32))])
    refine Goes.step ?_ (fun _ k => XS.goto X4.here hx rfl (pc0 := 292) (pc' := 296) rfl (hb hby at_292) (by decide) (by decide) k)
    show Goes p e below _ (sF T4 m 296 #[iv p1, iv p2, iv p3, iv p4, iv p5, iv p6, iv nn, iv b0, iv b1, iv b2, iv b3, iv b4, rv pa, rv co, rv u, iv (1 : Int32), .unset, .unset, .unset, .unset, .unset, .unset] [(.int (1 : Int32))])
    refine Goes.step ?_ (fun _ k => XS.istore X4.here hx rfl (hb hby at_296) rfl (l' := #[iv p1, iv p2, iv p3, iv p4, iv p5, iv p6, iv nn, iv b0, iv b1, iv b2, iv b3, iv b4, rv pa, rv co, rv u, iv (1 : Int32), .unset, .unset, .unset, .unset, .unset, .unset]) rfl k)
    show Goes p e below _ (sF T4 m 298 #[iv p1, iv p2, iv p3, iv p4, iv p5, iv p6, iv nn, iv b0, iv b1, iv b2, iv b3, iv b4, rv pa, rv co, rv u, iv (1 : Int32), .unset, .unset, .unset, .unset, .unset, .unset] [])
    exact tail298 p1 p2 p3 p4 p5 p6 nn b0 b1 b2 b3 b4 pa co u kp ku pl rl q X4 hx hZ hw hby hlk hret hml hown e4 N4 Z0 V_pa V_u F_count E_co hr0 hr1 hr2 hr3 hr4 hp0 hp1 hp2 hp3 hp4 l1 l2
  · refine Goes.step ?_ (fun _ k => XS.icmpYes X0.here hx rfl (pc0 := 270) (pc' := 298) rfl (hb hby at_270) rfl (flt hc270_1).2.2.2 (by decide) (by decide) k)
    show Goes p e below _ (sF T0 m 298 #[iv p1, iv p2, iv p3, iv p4, iv p5, iv p6, iv nn, iv b0, iv b1, iv b2, iv b3, iv b4, rv pa, rv co, rv u, iv (1 : Int32), .unset, .unset, .unset, .unset, .unset, .unset] [])
    exact tail298 p1 p2 p3 p4 p5 p6 nn b0 b1 b2 b3 b4 pa co u kp ku pl rl q X0 hx hZ hw hby hlk hret hml hown e0 N0 Z0 V_pa V_u F_count E_co hr0 hr1 hr2 hr3 hr4 hp0 hp1 hp2 hp3 hp4 l1 l2
set_option maxRecDepth 65536 in
set_option maxHeartbeats 40000000 in
theorem tail236 {p : Program} {l : Launch} {e : Env} {s : State} {m : MethodId} {args : Array Value} {below : List Frame} {meth : Method} {c : Code} {T0 : State} {locs : List Loc} {Z : State} {a0 : Array Value} {h0 : Heap} {n0 : Nat} (p1 : Int32) (p2 : Int32) (p3 : Int32) (p4 : Int32) (p5 : Int32) (p6 : Int32) (nn : Int32) (b0 : Int32) (b1 : Int32) (b2 : Int32) (b3 : Int32) (b4 : Int32) (pa : Addr) (co : Addr) (u : Addr) (kp : ClassId) (ku : ClassId) (pl : List Value) (rl : List Value) (q : Int64)
    (X0 : Stand p l e room_1 s m args below meth c T0 locs (9) (60)) (hx : p.tables.exec = Jvm.exec) (hZ : Z.Warmed39 s.vm) (hw : ∀ d ∈ tables_1, d.before a0 Z = true) (hby : c.code = code) (hlk : meth.locks = false) (hret : meth.sig.returnType = some .boolean) (hml : c.maxLocals = 22) (hown : s.vm.findClass "com/example/borderline/borderline/BorderTableShiftedPinLaw" = some m.cls) (e0 : T0.heap = h0) (N0 : Fr n0 locs) (Z0 : n0 ≤ h0.size) (V_pa : Arv Z h0 pa kp .byte nn pl (.int (0 : Int32))) (V_u : Arv Z h0 u ku .int nn rl (.int (0 : Int32))) (F_count : Fld Z h0 co "com/example/borderline/borderline/Comparisons" "count" "J" (.long q)) (E_co : Exa Z h0 co "com/example/borderline/borderline/Comparisons") (hr0 : (0 : Int32) < nn → rl.getD ((0 : Int32)).toNatClampNeg (.int (0 : Int32)) = .int (-1 : Int32)) (hr1 : (1 : Int32) < nn → rl.getD ((1 : Int32)).toNatClampNeg (.int (0 : Int32)) = .int (0 : Int32)) (hr2 : (2 : Int32) < nn → rl.getD ((2 : Int32)).toNatClampNeg (.int (0 : Int32)) = .int (lg2 b0 b1)) (hr3 : (3 : Int32) < nn → rl.getD ((3 : Int32)).toNatClampNeg (.int (0 : Int32)) = .int (lg3 b0 b1 b2)) (hr4 : (4 : Int32) < nn → rl.getD ((4 : Int32)).toNatClampNeg (.int (0 : Int32)) = .int (lg4 b0 b1 b2 b3)) (hp0 : (0 : Int32) < nn → pl.getD ((0 : Int32)).toNatClampNeg (.int (0 : Int32)) = .int b0) (hp1 : (1 : Int32) < nn → pl.getD ((1 : Int32)).toNatClampNeg (.int (0 : Int32)) = .int b1) (hp2 : (2 : Int32) < nn → pl.getD ((2 : Int32)).toNatClampNeg (.int (0 : Int32)) = .int b2) (hp3 : (3 : Int32) < nn → pl.getD ((3 : Int32)).toNatClampNeg (.int (0 : Int32)) = .int b3) (hp4 : (4 : Int32) < nn → pl.getD ((4 : Int32)).toNatClampNeg (.int (0 : Int32)) = .int b4) (l1 : ¬ (lcmpW q ((maxV (nn - (2 : Int32)) (0 : Int32)).toInt64)) < 0) (l2 : ¬ (0 : Int32) < (lcmpW q ((maxV (((2 : Int32) * nn) - (4 : Int32)) (0 : Int32)).toInt64))) :
    Goes p e below (fun o U' => ∃ v L, o = .returned v ∧ Q0 n0 v U'.heap L ∧ FrameEnd s o U' L room_1.cells room_1.slots) (T0.setTop (mkF m 236 #[iv p1, iv p2, iv p3, iv p4, iv p5, iv p6, iv nn, iv b0, iv b1, iv b2, iv b3, iv b4, rv pa, rv co, rv u, iv (1 : Int32), .unset, .unset, .unset, .unset, .unset, .unset] [])) := by
  show Goes p e below _ (sF T0 m 236 #[iv p1, iv p2, iv p3, iv p4, iv p5, iv p6, iv nn, iv b0, iv b1, iv b2, iv b3, iv b4, rv pa, rv co, rv u, iv (1 : Int32), .unset, .unset, .unset, .unset, .unset, .unset] [])
  refine Goes.step ?_ (fun _ k => XS.iload X0.here hx rfl (hb hby at_236) rfl  k)
  show Goes p e below _ (sF T0 m 238 #[iv p1, iv p2, iv p3, iv p4, iv p5, iv p6, iv nn, iv b0, iv b1, iv b2, iv b3, iv b4, rv pa, rv co, rv u, iv (1 : Int32), .unset, .unset, .unset, .unset, .unset, .unset] [(.int nn)])
  refine Goes.step ?_ (fun _ k => XS.iconst X0.here hx rfl (hb hby at_238) k)
  show Goes p e below _ (sF T0 m 239 #[iv p1, iv p2, iv p3, iv p4, iv p5, iv p6, iv nn, iv b0, iv b1, iv b2, iv b3, iv b4, rv pa, rv co, rv u, iv (1 : Int32), .unset, .unset, .unset, .unset, .unset, .unset] [(.int (1 : Int32)), (.int nn)])
  by_cases hc239_1 : (1 : Int32) < nn
  · refine Goes.step ?_ (fun _ k => XS.icmpNo X0.here hx rfl (hb hby at_239) rfl (tlt hc239_1).2.2.2 k)
    show Goes p e below _ (sF T0 m 242 #[iv p1, iv p2, iv p3, iv p4, iv p5, iv p6, iv nn, iv b0, iv b1, iv b2, iv b3, iv b4, rv pa, rv co, rv u, iv (1 : Int32), .unset, .unset, .unset, .unset, .unset, .unset] [])
    refine Goes.step ?_ (fun _ k => XS.iload X0.here hx rfl (hb hby at_242) rfl  k)
    show Goes p e below _ (sF T0 m 244 #[iv p1, iv p2, iv p3, iv p4, iv p5, iv p6, iv nn, iv b0, iv b1, iv b2, iv b3, iv b4, rv pa, rv co, rv u, iv (1 : Int32), .unset, .unset, .unset, .unset, .unset, .unset] [(.int (1 : Int32))])
    refine Goes.step ?_ (fun _ k => XS.ifNo X0.here hx rfl (hb hby at_244) rfl ((if0 _ _).trans (feq (by decide : ¬ ((1 : Int32) = (0 : Int32)))).1) k)
    show Goes p e below _ (sF T0 m 247 #[iv p1, iv p2, iv p3, iv p4, iv p5, iv p6, iv nn, iv b0, iv b1, iv b2, iv b3, iv b4, rv pa, rv co, rv u, iv (1 : Int32), .unset, .unset, .unset, .unset, .unset, .unset] [])
    refine Goes.step ?_ (fun _ k => XS.aload X0.here hx rfl (hb hby at_247) rfl rfl k)
    show Goes p e below _ (sF T0 m 249 #[iv p1, iv p2, iv p3, iv p4, iv p5, iv p6, iv nn, iv b0, iv b1, iv b2, iv b3, iv b4, rv pa, rv co, rv u, iv (1 : Int32), .unset, .unset, .unset, .unset, .unset, .unset] [(.ref u)])
    refine Goes.step ?_ (fun _ k => XS.iconst X0.here hx rfl (hb hby at_249) k)
    show Goes p e below _ (sF T0 m 250 #[iv p1, iv p2, iv p3, iv p4, iv p5, iv p6, iv nn, iv b0, iv b1, iv b2, iv b3, iv b4, rv pa, rv co, rv u, iv (1 : Int32), .unset, .unset, .unset, .unset, .unset, .unset] [(.int (1 : Int32)), (.ref u)])
    obtain ⟨cl2, Ar2, q2, S2, N_2, H2, G2⟩ := id V_u
    have hin3 : ¬ ((1 : Int32) < 0 ∨ cl2.slots.size ≤ ((1 : Int32)).toNatClampNeg) := inb_of S2 ⟨by decide, hc239_1⟩
    have hat3 : cl2.slots[((1 : Int32)).toNatClampNeg]? = some (.int (0 : Int32)) := H2.at hin3 (hr1 hc239_1)
    refine Goes.step ?_ (fun _ k => X0.iaload hx (j := (1 : Int32)) (v := (.int (0 : Int32))) (by rw [e0]; exact Ar2.1) (State.isArrayOf_alike hZ.alike Ar2.2.1) Ar2.2.2 hin3 hat3 (g := (mkF m 250 #[iv p1, iv p2, iv p3, iv p4, iv p5, iv p6, iv nn, iv b0, iv b1, iv b2, iv b3, iv b4, rv pa, rv co, rv u, iv (1 : Int32), .unset, .unset, .unset, .unset, .unset, .unset] [(.int (1 : Int32)), (.ref u)])) rfl rfl (hb hby at_250) _ k)
    show Goes p e below _ (sF T0 m 251 #[iv p1, iv p2, iv p3, iv p4, iv p5, iv p6, iv nn, iv b0, iv b1, iv b2, iv b3, iv b4, rv pa, rv co, rv u, iv (1 : Int32), .unset, .unset, .unset, .unset, .unset, .unset] [(.int (0 : Int32))])
    refine Goes.step ?_ (fun _ k => XS.aload X0.here hx rfl (hb hby at_251) rfl rfl k)
    show Goes p e below _ (sF T0 m 253 #[iv p1, iv p2, iv p3, iv p4, iv p5, iv p6, iv nn, iv b0, iv b1, iv b2, iv b3, iv b4, rv pa, rv co, rv u, iv (1 : Int32), .unset, .unset, .unset, .unset, .unset, .unset] [(.ref pa), (.int (0 : Int32))])
    refine Goes.step ?_ (fun _ k => XS.iconst X0.here hx rfl (hb hby at_253) k)
    show Goes p e below _ (sF T0 m 254 #[iv p1, iv p2, iv p3, iv p4, iv p5, iv p6, iv nn, iv b0, iv b1, iv b2, iv b3, iv b4, rv pa, rv co, rv u, iv (1 : Int32), .unset, .unset, .unset, .unset, .unset, .unset] [(.int (1 : Int32)), (.ref pa), (.int (0 : Int32))])
    obtain ⟨_, _, ⟨T4, L4, k4, n4⟩, -, X4, ⟨Lc4, hQ4, l4, y4, z4⟩, st4⟩ := Jvm.LawKit.callS X0 hx (y := (⟨"com/example/borderline/borderline/BorderTableShiftedPinLaw", "longest", "([BI)I"⟩ : MethodName)) hown (mvT hZ (hw _ (List.mem_of_getElem? (i := 48) rfl))) (mvT hZ (hw _ (List.mem_of_getElem? (i := 49) rfl))) (mvT hZ (hw _ (List.mem_of_getElem? (i := 50) rfl))) (mvT hZ (hw _ (List.mem_of_getElem? (i := 51) rfl))) (by decide) (backOf (W := 1) (rmLo1 l Z a0 hw [] pa kp nn pl b0 h0 n0 Z0 V_pa ⟨by decide, (Int32.lt_trans (by decide : (0 : Int32) < (1 : Int32)) hc239_1)⟩ (hp0 (Int32.lt_trans (by decide : (0 : Int32) < (1 : Int32)) hc239_1))) hZ (hw _ (List.mem_of_getElem? (i := 51) rfl)) (hw _ (List.mem_of_getElem? (i := 50) rfl)) (by decide) (by decide)) (g := (mkF m 254 #[iv p1, iv p2, iv p3, iv p4, iv p5, iv p6, iv nn, iv b0, iv b1, iv b2, iv b3, iv b4, rv pa, rv co, rv u, iv (1 : Int32), .unset, .unset, .unset, .unset, .unset, .unset] [(.int (1 : Int32)), (.ref pa), (.int (0 : Int32))])) rfl (by rw [hml]; rfl) (argsL := [(.ref pa), (.int (1 : Int32))]) (rest := [(.int (0 : Int32))]) (lenOf pd__28_5bBI_29I rfl) rfl (by show 2 * 0 + _ ≤ _; exact Nat.le_of_eq rfl) (hb hby at_254) (fun _ _ => ⟨rfl, e0, (by decide : 9 + 0 ≤ _), (by decide : 60 + 0 ≤ _)⟩)
    dsimp only [Pt.U, Pt.locs, Pt.cells, Pt.slots] at X4 l4 y4 z4 st4 hQ4
    subst l4 y4 z4
    obtain ⟨rfl, N4q, e4⟩ := hQ4
    have N4 := Fr.app N0 N4q
    refine Goes.step ?_ st4
    show Goes p e below _ (sF T4 m 257 #[iv p1, iv p2, iv p3, iv p4, iv p5, iv p6, iv nn, iv b0, iv b1, iv b2, iv b3, iv b4, rv pa, rv co, rv u, iv (1 : Int32), .unset, .unset, .unset, .unset, .unset, .unset] [(.int (0 : Int32)), (.int (0 : Int32))])
    refine Goes.step ?_ (fun _ k => XS.icmpNo X4.here hx rfl (hb hby at_257) rfl (teq (by decide : (0 : Int32) = (0 : Int32))).2 k)
    show Goes p e below _ (sF T4 m 260 #[iv p1, iv p2, iv p3, iv p4, iv p5, iv p6, iv nn, iv b0, iv b1, iv b2, iv b3, iv b4, rv pa, rv co, rv u, iv (1 : Int32), .unset, .unset, .unset, .unset, .unset, .unset] [])
    refine Goes.step ?_ (fun _ k => XS.iconst X4.here hx rfl (hb hby at_260) k)
    show Goes p e below _ (sF T4 m 261 #[iv p1, iv p2, iv p3, iv p4, iv p5, iv p6, iv nn, iv b0, iv b1, iv b2, iv b3, iv b4, rv pa, rv co, rv u, iv (1 : Int32), .unset, .unset, .unset, .unset, .unset, .unset] [(.int (1 : Int32))])
    refine Goes.step ?_ (fun _ k => XS.goto X4.here hx rfl (pc0 := 261) (pc' := 265) rfl (hb hby at_261) (by decide) (by decide) k)
    show Goes p e below _ (sF T4 m 265 #[iv p1, iv p2, iv p3, iv p4, iv p5, iv p6, iv nn, iv b0, iv b1, iv b2, iv b3, iv b4, rv pa, rv co, rv u, iv (1 : Int32), .unset, .unset, .unset, .unset, .unset, .unset] [(.int (1 : Int32))])
    refine Goes.step ?_ (fun _ k => XS.istore X4.here hx rfl (hb hby at_265) rfl (l' := #[iv p1, iv p2, iv p3, iv p4, iv p5, iv p6, iv nn, iv b0, iv b1, iv b2, iv b3, iv b4, rv pa, rv co, rv u, iv (1 : Int32), .unset, .unset, .unset, .unset, .unset, .unset]) rfl k)
    show Goes p e below _ (sF T4 m 267 #[iv p1, iv p2, iv p3, iv p4, iv p5, iv p6, iv nn, iv b0, iv b1, iv b2, iv b3, iv b4, rv pa, rv co, rv u, iv (1 : Int32), .unset, .unset, .unset, .unset, .unset, .unset] [])
    exact tail267 p1 p2 p3 p4 p5 p6 nn b0 b1 b2 b3 b4 pa co u kp ku pl rl q X4 hx hZ hw hby hlk hret hml hown e4 N4 Z0 V_pa V_u F_count E_co hr0 hr1 hr2 hr3 hr4 hp0 hp1 hp2 hp3 hp4 l1 l2
  · refine Goes.step ?_ (fun _ k => XS.icmpYes X0.here hx rfl (pc0 := 239) (pc' := 267) rfl (hb hby at_239) rfl (flt hc239_1).2.2.2 (by decide) (by decide) k)
    show Goes p e below _ (sF T0 m 267 #[iv p1, iv p2, iv p3, iv p4, iv p5, iv p6, iv nn, iv b0, iv b1, iv b2, iv b3, iv b4, rv pa, rv co, rv u, iv (1 : Int32), .unset, .unset, .unset, .unset, .unset, .unset] [])
    exact tail267 p1 p2 p3 p4 p5 p6 nn b0 b1 b2 b3 b4 pa co u kp ku pl rl q X0 hx hZ hw hby hlk hret hml hown e0 N0 Z0 V_pa V_u F_count E_co hr0 hr1 hr2 hr3 hr4 hp0 hp1 hp2 hp3 hp4 l1 l2
set_option maxRecDepth 65536 in
set_option maxHeartbeats 40000000 in
theorem tail208 {p : Program} {l : Launch} {e : Env} {s : State} {m : MethodId} {args : Array Value} {below : List Frame} {meth : Method} {c : Code} {T0 : State} {locs : List Loc} {Z : State} {a0 : Array Value} {h0 : Heap} {n0 : Nat} (p1 : Int32) (p2 : Int32) (p3 : Int32) (p4 : Int32) (p5 : Int32) (p6 : Int32) (nn : Int32) (b0 : Int32) (b1 : Int32) (b2 : Int32) (b3 : Int32) (b4 : Int32) (pa : Addr) (co : Addr) (u : Addr) (kp : ClassId) (ku : ClassId) (pl : List Value) (rl : List Value) (q : Int64)
    (X0 : Stand p l e room_1 s m args below meth c T0 locs (9) (60)) (hx : p.tables.exec = Jvm.exec) (hZ : Z.Warmed39 s.vm) (hw : ∀ d ∈ tables_1, d.before a0 Z = true) (hby : c.code = code) (hlk : meth.locks = false) (hret : meth.sig.returnType = some .boolean) (hml : c.maxLocals = 22) (hown : s.vm.findClass "com/example/borderline/borderline/BorderTableShiftedPinLaw" = some m.cls) (e0 : T0.heap = h0) (N0 : Fr n0 locs) (Z0 : n0 ≤ h0.size) (V_pa : Arv Z h0 pa kp .byte nn pl (.int (0 : Int32))) (V_u : Arv Z h0 u ku .int nn rl (.int (0 : Int32))) (F_count : Fld Z h0 co "com/example/borderline/borderline/Comparisons" "count" "J" (.long q)) (E_co : Exa Z h0 co "com/example/borderline/borderline/Comparisons") (hr0 : (0 : Int32) < nn → rl.getD ((0 : Int32)).toNatClampNeg (.int (0 : Int32)) = .int (-1 : Int32)) (hr1 : (1 : Int32) < nn → rl.getD ((1 : Int32)).toNatClampNeg (.int (0 : Int32)) = .int (0 : Int32)) (hr2 : (2 : Int32) < nn → rl.getD ((2 : Int32)).toNatClampNeg (.int (0 : Int32)) = .int (lg2 b0 b1)) (hr3 : (3 : Int32) < nn → rl.getD ((3 : Int32)).toNatClampNeg (.int (0 : Int32)) = .int (lg3 b0 b1 b2)) (hr4 : (4 : Int32) < nn → rl.getD ((4 : Int32)).toNatClampNeg (.int (0 : Int32)) = .int (lg4 b0 b1 b2 b3)) (hp0 : (0 : Int32) < nn → pl.getD ((0 : Int32)).toNatClampNeg (.int (0 : Int32)) = .int b0) (hp1 : (1 : Int32) < nn → pl.getD ((1 : Int32)).toNatClampNeg (.int (0 : Int32)) = .int b1) (hp2 : (2 : Int32) < nn → pl.getD ((2 : Int32)).toNatClampNeg (.int (0 : Int32)) = .int b2) (hp3 : (3 : Int32) < nn → pl.getD ((3 : Int32)).toNatClampNeg (.int (0 : Int32)) = .int b3) (hp4 : (4 : Int32) < nn → pl.getD ((4 : Int32)).toNatClampNeg (.int (0 : Int32)) = .int b4) (l1 : ¬ (lcmpW q ((maxV (nn - (2 : Int32)) (0 : Int32)).toInt64)) < 0) (l2 : ¬ (0 : Int32) < (lcmpW q ((maxV (((2 : Int32) * nn) - (4 : Int32)) (0 : Int32)).toInt64))) :
    Goes p e below (fun o U' => ∃ v L, o = .returned v ∧ Q0 n0 v U'.heap L ∧ FrameEnd s o U' L room_1.cells room_1.slots) (T0.setTop (mkF m 208 #[iv p1, iv p2, iv p3, iv p4, iv p5, iv p6, iv nn, iv b0, iv b1, iv b2, iv b3, iv b4, rv pa, rv co, rv u, .unset, .unset, .unset, .unset, .unset, .unset, .unset] [])) := by
  show Goes p e below _ (sF T0 m 208 #[iv p1, iv p2, iv p3, iv p4, iv p5, iv p6, iv nn, iv b0, iv b1, iv b2, iv b3, iv b4, rv pa, rv co, rv u, .unset, .unset, .unset, .unset, .unset, .unset, .unset] [])
  refine Goes.step ?_ (fun _ k => XS.iconst X0.here hx rfl (hb hby at_208) k)
  show Goes p e below _ (sF T0 m 209 #[iv p1, iv p2, iv p3, iv p4, iv p5, iv p6, iv nn, iv b0, iv b1, iv b2, iv b3, iv b4, rv pa, rv co, rv u, .unset, .unset, .unset, .unset, .unset, .unset, .unset] [(.int (1 : Int32))])
  refine Goes.step ?_ (fun _ k => XS.istore X0.here hx rfl (hb hby at_209) rfl (l' := #[iv p1, iv p2, iv p3, iv p4, iv p5, iv p6, iv nn, iv b0, iv b1, iv b2, iv b3, iv b4, rv pa, rv co, rv u, iv (1 : Int32), .unset, .unset, .unset, .unset, .unset, .unset]) rfl k)
  show Goes p e below _ (sF T0 m 211 #[iv p1, iv p2, iv p3, iv p4, iv p5, iv p6, iv nn, iv b0, iv b1, iv b2, iv b3, iv b4, rv pa, rv co, rv u, iv (1 : Int32), .unset, .unset, .unset, .unset, .unset, .unset] [])
  refine Goes.step ?_ (fun _ k => XS.iload X0.here hx rfl (hb hby at_211) rfl  k)
  show Goes p e below _ (sF T0 m 213 #[iv p1, iv p2, iv p3, iv p4, iv p5, iv p6, iv nn, iv b0, iv b1, iv b2, iv b3, iv b4, rv pa, rv co, rv u, iv (1 : Int32), .unset, .unset, .unset, .unset, .unset, .unset] [(.int nn)])
  by_cases hc213_1 : (0 : Int32) < nn
  · refine Goes.step ?_ (fun _ k => XS.ifNo X0.here hx rfl (hb hby at_213) rfl ((if0 _ _).trans (tlt hc213_1).2.2.2) k)
    show Goes p e below _ (sF T0 m 216 #[iv p1, iv p2, iv p3, iv p4, iv p5, iv p6, iv nn, iv b0, iv b1, iv b2, iv b3, iv b4, rv pa, rv co, rv u, iv (1 : Int32), .unset, .unset, .unset, .unset, .unset, .unset] [])
    refine Goes.step ?_ (fun _ k => XS.iload X0.here hx rfl (hb hby at_216) rfl  k)
    show Goes p e below _ (sF T0 m 218 #[iv p1, iv p2, iv p3, iv p4, iv p5, iv p6, iv nn, iv b0, iv b1, iv b2, iv b3, iv b4, rv pa, rv co, rv u, iv (1 : Int32), .unset, .unset, .unset, .unset, .unset, .unset] [(.int (1 : Int32))])
    refine Goes.step ?_ (fun _ k => XS.ifNo X0.here hx rfl (hb hby at_218) rfl ((if0 _ _).trans (feq (by decide : ¬ ((1 : Int32) = (0 : Int32)))).1) k)
    show Goes p e below _ (sF T0 m 221 #[iv p1, iv p2, iv p3, iv p4, iv p5, iv p6, iv nn, iv b0, iv b1, iv b2, iv b3, iv b4, rv pa, rv co, rv u, iv (1 : Int32), .unset, .unset, .unset, .unset, .unset, .unset] [])
    refine Goes.step ?_ (fun _ k => XS.aload X0.here hx rfl (hb hby at_221) rfl rfl k)
    show Goes p e below _ (sF T0 m 223 #[iv p1, iv p2, iv p3, iv p4, iv p5, iv p6, iv nn, iv b0, iv b1, iv b2, iv b3, iv b4, rv pa, rv co, rv u, iv (1 : Int32), .unset, .unset, .unset, .unset, .unset, .unset] [(.ref u)])
    refine Goes.step ?_ (fun _ k => XS.iconst X0.here hx rfl (hb hby at_223) k)
    show Goes p e below _ (sF T0 m 224 #[iv p1, iv p2, iv p3, iv p4, iv p5, iv p6, iv nn, iv b0, iv b1, iv b2, iv b3, iv b4, rv pa, rv co, rv u, iv (1 : Int32), .unset, .unset, .unset, .unset, .unset, .unset] [(.int (0 : Int32)), (.ref u)])
    obtain ⟨cl2, Ar2, q2, S2, N_2, H2, G2⟩ := id V_u
    have hin3 : ¬ ((0 : Int32) < 0 ∨ cl2.slots.size ≤ ((0 : Int32)).toNatClampNeg) := inb_of S2 ⟨by decide, hc213_1⟩
    have hat3 : cl2.slots[((0 : Int32)).toNatClampNeg]? = some (.int (-1 : Int32)) := H2.at hin3 (hr0 hc213_1)
    refine Goes.step ?_ (fun _ k => X0.iaload hx (j := (0 : Int32)) (v := (.int (-1 : Int32))) (by rw [e0]; exact Ar2.1) (State.isArrayOf_alike hZ.alike Ar2.2.1) Ar2.2.2 hin3 hat3 (g := (mkF m 224 #[iv p1, iv p2, iv p3, iv p4, iv p5, iv p6, iv nn, iv b0, iv b1, iv b2, iv b3, iv b4, rv pa, rv co, rv u, iv (1 : Int32), .unset, .unset, .unset, .unset, .unset, .unset] [(.int (0 : Int32)), (.ref u)])) rfl rfl (hb hby at_224) _ k)
    show Goes p e below _ (sF T0 m 225 #[iv p1, iv p2, iv p3, iv p4, iv p5, iv p6, iv nn, iv b0, iv b1, iv b2, iv b3, iv b4, rv pa, rv co, rv u, iv (1 : Int32), .unset, .unset, .unset, .unset, .unset, .unset] [(.int (-1 : Int32))])
    refine Goes.step ?_ (fun _ k => XS.iconst X0.here hx rfl (hb hby at_225) k)
    show Goes p e below _ (sF T0 m 226 #[iv p1, iv p2, iv p3, iv p4, iv p5, iv p6, iv nn, iv b0, iv b1, iv b2, iv b3, iv b4, rv pa, rv co, rv u, iv (1 : Int32), .unset, .unset, .unset, .unset, .unset, .unset] [(.int (-1 : Int32)), (.int (-1 : Int32))])
    refine Goes.step ?_ (fun _ k => XS.icmpNo X0.here hx rfl (hb hby at_226) rfl (teq (by decide : (-1 : Int32) = (-1 : Int32))).2 k)
    show Goes p e below _ (sF T0 m 229 #[iv p1, iv p2, iv p3, iv p4, iv p5, iv p6, iv nn, iv b0, iv b1, iv b2, iv b3, iv b4, rv pa, rv co, rv u, iv (1 : Int32), .unset, .unset, .unset, .unset, .unset, .unset] [])
    refine Goes.step ?_ (fun _ k => XS.iconst X0.here hx rfl (hb hby at_229) k)
    show Goes p e below _ (sF T0 m 230 #[iv p1, iv p2, iv p3, iv p4, iv p5, iv p6, iv nn, iv b0, iv b1, iv b2, iv b3, iv b4, rv pa, rv co, rv u, iv (1 : Int32), .unset, .unset, .unset, .unset, .unset, .unset] [(.int (1 : Int32))])
    refine Goes.step ?_ (fun _ k => XS.goto X0.here hx rfl (pc0 := 230) (pc' := 234) rfl (hb hby at_230) (by decide) (by decide) k)
    show Goes p e below _ (sF T0 m 234 #[iv p1, iv p2, iv p3, iv p4, iv p5, iv p6, iv nn, iv b0, iv b1, iv b2, iv b3, iv b4, rv pa, rv co, rv u, iv (1 : Int32), .unset, .unset, .unset, .unset, .unset, .unset] [(.int (1 : Int32))])
    refine Goes.step ?_ (fun _ k => XS.istore X0.here hx rfl (hb hby at_234) rfl (l' := #[iv p1, iv p2, iv p3, iv p4, iv p5, iv p6, iv nn, iv b0, iv b1, iv b2, iv b3, iv b4, rv pa, rv co, rv u, iv (1 : Int32), .unset, .unset, .unset, .unset, .unset, .unset]) rfl k)
    show Goes p e below _ (sF T0 m 236 #[iv p1, iv p2, iv p3, iv p4, iv p5, iv p6, iv nn, iv b0, iv b1, iv b2, iv b3, iv b4, rv pa, rv co, rv u, iv (1 : Int32), .unset, .unset, .unset, .unset, .unset, .unset] [])
    exact tail236 p1 p2 p3 p4 p5 p6 nn b0 b1 b2 b3 b4 pa co u kp ku pl rl q X0 hx hZ hw hby hlk hret hml hown e0 N0 Z0 V_pa V_u F_count E_co hr0 hr1 hr2 hr3 hr4 hp0 hp1 hp2 hp3 hp4 l1 l2
  · refine Goes.step ?_ (fun _ k => XS.ifYes X0.here hx rfl (pc0 := 213) (pc' := 236) rfl (hb hby at_213) rfl ((if0 _ _).trans (flt hc213_1).2.2.2) (by decide) (by decide) k)
    show Goes p e below _ (sF T0 m 236 #[iv p1, iv p2, iv p3, iv p4, iv p5, iv p6, iv nn, iv b0, iv b1, iv b2, iv b3, iv b4, rv pa, rv co, rv u, iv (1 : Int32), .unset, .unset, .unset, .unset, .unset, .unset] [])
    exact tail236 p1 p2 p3 p4 p5 p6 nn b0 b1 b2 b3 b4 pa co u kp ku pl rl q X0 hx hZ hw hby hlk hret hml hown e0 N0 Z0 V_pa V_u F_count E_co hr0 hr1 hr2 hr3 hr4 hp0 hp1 hp2 hp3 hp4 l1 l2
theorem ef_rmMaxL (m : MethodId) (x0 : Int32) (x1 : Int32) : entryFrame m #[(.int x0), (.int x1)] 2 = mkF m 0 #[iv x0, iv x1] [] := by first | (simp [entryFrame, mkF, argsToLocals, Value.category]; done) | rfl
set_option maxRecDepth 65536 in
set_option maxHeartbeats 40000000 in
theorem rmMaxL (l : Launch) (Z : State) (a0 : Array Value) (hw : ∀ d ∈ tables_1, d.before a0 Z = true) (ws : List Jvm.Cond) (p1 : Int32) (p2 : Int32) (r : Int32) (h0 : Heap) (n0 : Nat) (Z0 : n0 ≤ h0.size) (hr : maxV p1 p2 = r) :
    MetFree l (⟨"java/lang/Math", "max", "(II)I"⟩ : MethodName) (head1 (Jvm.Cond.code (⟨"java/lang/Math", "max", "(II)I"⟩ : MethodName) jdk_29_method_65_code 2 (some .int) :: ws) ({ frames := 0, cells := 0, slots := 0, locals := 0 } : Room)) (fun a U => a = #[(.int p1), (.int p2)] ∧ Z.Warmed39 U.vm ∧ U.heap = h0) (fun _ _ _ _ _ => True) (fun _ U o U' => ∃ v L, o = .returned v ∧ QInt r h0 n0 v U'.heap L ∧ FrameEnd U o U' L ({ frames := 0, cells := 0, slots := 0, locals := 0 } : Room).cells ({ frames := 0, cells := 0, slots := 0, locals := 0 } : Room).slots) := by
  refine MetFree.of_bodySF (Jvm.Free.JP.mathPlain rfl (by decide +kernel)) hisR ?_
  intro p e s m args below meth c s₁ Bd hml0 hP hK
  obtain ⟨rfl, hZ, hh⟩ := hP
  have hx := Bd.exec
  have hby := Bd.bytes
  have hlk : meth.locks = false := BodyLoose.notSynchronized Bd
  have hml : c.maxLocals = 2 := hml0
  have hown : s.vm.findClass "java/lang/Math" = some m.cls := findClass_of_methodNamed Bd.named
  have hnm := (name_of_methodNamed Bd.named Bd.method).1
  have X0 : Stand p l e ({ frames := 0, cells := 0, slots := 0, locals := 0 } : Room) s m #[(.int p1), (.int p2)] below meth c s₁ [] 0 0 := Stand.of_body Bd
  have e0 : s₁.heap = h0 := by rw [← hh, Bd.state]; rfl
  have N0 := Fr.nil n0
  have hret := Bd.returns
  show Goes p e below (fun o U' => ∃ v L, o = .returned v ∧ QInt r h0 n0 v U'.heap L ∧ FrameEnd s o U' L ({ frames := 0, cells := 0, slots := 0, locals := 0 } : Room).cells ({ frames := 0, cells := 0, slots := 0, locals := 0 } : Room).slots) (s₁.setTop (entryFrame m #[(.int p1), (.int p2)] 2))
  refine Goes.step ?_ (fun _ k => castTop (ef_rmMaxL m p1 p2) k)
  show Goes p e below _ (sF s₁ m 0 #[iv p1, iv p2] [])
  refine Goes.step ?_ (fun _ k => XS.iloadN X0.here hx rfl (hb hby d5_0) rfl  k)
  show Goes p e below _ (sF s₁ m 1 #[iv p1, iv p2] [(.int p1)])
  refine Goes.step ?_ (fun _ k => XS.iloadN X0.here hx rfl (hb hby d5_1) rfl  k)
  show Goes p e below _ (sF s₁ m 2 #[iv p1, iv p2] [(.int p2), (.int p1)])
  by_cases hc2_1 : p1 < p2
  · refine Goes.step ?_ (fun _ k => XS.icmpYes X0.here hx rfl (pc0 := 2) (pc' := 9) rfl (hb hby d5_2) rfl (tlt hc2_1).1 (by decide) (by decide) k)
    show Goes p e below _ (sF s₁ m 9 #[iv p1, iv p2] [])
    refine Goes.step ?_ (fun _ k => XS.iloadN X0.here hx rfl (hb hby d5_9) rfl  k)
    show Goes p e below _ (sF s₁ m 10 #[iv p1, iv p2] [(.int p2)])
    refine own_out X0 hx hlk hret rfl (Or.inl ⟨rfl, by simp, _, rfl⟩) (hb hby d5_10) ?_ (by decide) (by decide)
    show QInt r h0 n0 _ s₁.heap _
    rw [e0]
    exact ⟨by rw [← hr]; simp [maxV, hc2_1], N0, rfl⟩
  · refine Goes.step ?_ (fun _ k => XS.icmpNo X0.here hx rfl (hb hby d5_2) rfl (flt hc2_1).1 k)
    show Goes p e below _ (sF s₁ m 5 #[iv p1, iv p2] [])
    refine Goes.step ?_ (fun _ k => XS.iloadN X0.here hx rfl (hb hby d5_5) rfl  k)
    show Goes p e below _ (sF s₁ m 6 #[iv p1, iv p2] [(.int p1)])
    refine Goes.step ?_ (fun _ k => XS.goto X0.here hx rfl (pc0 := 6) (pc' := 10) rfl (hb hby d5_6) (by decide) (by decide) k)
    show Goes p e below _ (sF s₁ m 10 #[iv p1, iv p2] [(.int p1)])
    refine own_out X0 hx hlk hret rfl (Or.inl ⟨rfl, by simp, _, rfl⟩) (hb hby d5_10) ?_ (by decide) (by decide)
    show QInt r h0 n0 _ s₁.heap _
    rw [e0]
    exact ⟨by rw [← hr]; simp [maxV, hc2_1], N0, rfl⟩
theorem pd__28_29V : parseMethodDescriptor "()V" = some ⟨[], none⟩ := by decide +kernel
theorem pd__28_5bBLcom_2fexample_2fborderline_2fborderline_2fComparisons_3b_29_5bI : parseMethodDescriptor "([BLcom/example/borderline/borderline/Comparisons;)[I" = some ⟨[(.array .byte), (.object "com/example/borderline/borderline/Comparisons")], some (.array .int)⟩ := by decide +kernel
set_option maxRecDepth 65536 in
set_option maxHeartbeats 40000000 in
theorem tail31_0 {p : Program} {l : Launch} {e : Env} {s : State} {m : MethodId} {args : Array Value} {below : List Frame} {meth : Method} {c : Code} {T0 : State} {locs : List Loc} {Z : State} {a0 : Array Value} {h0 : Heap} {n0 : Nat} (p1 : Int32) (p2 : Int32) (p3 : Int32) (p4 : Int32) (p5 : Int32) (p6 : Int32) (b0 : Int32) (b1 : Int32) (b2 : Int32) (b3 : Int32) (b4 : Int32) (cK : ClassId) (one : Option Addr)
    (X0 : Stand p l e room_1 s m args below meth c T0 locs (0) (0)) (hx : p.tables.exec = Jvm.exec) (hZ : Z.Warmed39 s.vm) (hw : ∀ d ∈ tables_1, d.before a0 Z = true) (hby : c.code = code) (hlk : meth.locks = false) (hret : meth.sig.returnType = some .boolean) (hml : c.maxLocals = 22) (hown : s.vm.findClass "com/example/borderline/borderline/BorderTableShiftedPinLaw" = some m.cls) (e0 : T0.heap = h0) (N0 : Fr n0 locs) (Z0 : n0 ≤ h0.size) (hZH : Z.WarmedH s.vm) (hSame : Z.sameButNew Z [] 0 0) (hLam : Z.lambdaAt? symN 1 30 sgm = some (cK, one)) (hb0 : b0.toInt8.toInt32 = b0) (hb1 : b1.toInt8.toInt32 = b1) (hb2 : b2.toInt8.toInt32 = b2) (hb3 : b3.toInt8.toInt32 = b3) (hb4 : b4.toInt8.toInt32 = b4) :
    Goes p e below (fun o U' => ∃ v L, o = .returned v ∧ Q0 n0 v U'.heap L ∧ FrameEnd s o U' L room_1.cells room_1.slots) (T0.setTop (mkF m 31 #[iv p1, iv p2, iv p3, iv p4, iv p5, iv p6, iv (0 : Int32), iv b0, iv b1, iv b2, iv b3, iv b4, .unset, .unset, .unset, .unset, .unset, .unset, .unset, .unset, .unset, .unset] [])) := by
  show Goes p e below _ (sF T0 m 31 #[iv p1, iv p2, iv p3, iv p4, iv p5, iv p6, iv (0 : Int32), iv b0, iv b1, iv b2, iv b3, iv b4, .unset, .unset, .unset, .unset, .unset, .unset, .unset, .unset, .unset, .unset] [])
  refine Goes.step ?_ (fun _ k => XS.iload X0.here hx rfl (hb hby at_31) rfl  k)
  show Goes p e below _ (sF T0 m 33 #[iv p1, iv p2, iv p3, iv p4, iv p5, iv p6, iv (0 : Int32), iv b0, iv b1, iv b2, iv b3, iv b4, .unset, .unset, .unset, .unset, .unset, .unset, .unset, .unset, .unset, .unset] [(.int (0 : Int32))])
  refine Goes.step ?_ (fun _ k => XS.ifNo X0.here hx rfl (hb hby at_33) rfl ((if0 _ _).trans (teq (by decide : (0 : Int32) = (0 : Int32))).2) k)
  show Goes p e below _ (sF T0 m 36 #[iv p1, iv p2, iv p3, iv p4, iv p5, iv p6, iv (0 : Int32), iv b0, iv b1, iv b2, iv b3, iv b4, .unset, .unset, .unset, .unset, .unset, .unset, .unset, .unset, .unset, .unset] [])
  refine Goes.step ?_ (fun _ k => XS.iconst X0.here hx rfl (hb hby at_36) k)
  show Goes p e below _ (sF T0 m 37 #[iv p1, iv p2, iv p3, iv p4, iv p5, iv p6, iv (0 : Int32), iv b0, iv b1, iv b2, iv b3, iv b4, .unset, .unset, .unset, .unset, .unset, .unset, .unset, .unset, .unset, .unset] [(.int (0 : Int32))])
  obtain ⟨T1, h1, k1, X1, e1, E1, A1, st1⟩ := newP X0 hx hZ (hw _ (List.mem_of_getElem? (i := 1) rfl)) e0 (g := (mkF m 37 #[iv p1, iv p2, iv p3, iv p4, iv p5, iv p6, iv (0 : Int32), iv b0, iv b1, iv b2, iv b3, iv b4, .unset, .unset, .unset, .unset, .unset, .unset, .unset, .unset, .unset, .unset] [(.int (0 : Int32))])) rfl (hb hby at_37) rfl (by decide) (cap := 0) (by decide) (by decide) (by decide) (by decide)
  obtain ⟨ob1, g1⟩ : ∃ z, z = h0.size := ⟨_, rfl⟩
  rw [← g1] at A1 st1
  have g_ob1 : n0 ≤ ob1 := Nat.le_trans Z0 (Nat.le_of_eq g1.symm)
  have Zs1 : n0 ≤ h1.size := Nat.le_trans Z0 E1.1
  refine Goes.step ?_ st1
  have V_ob1 : Arv Z h1 ob1 k1 .byte (0 : Int32) [] (.int (0 : Int32)) := Arv.new A1 (by decide)
  show Goes p e below _ (sF T1 m 39 #[iv p1, iv p2, iv p3, iv p4, iv p5, iv p6, iv (0 : Int32), iv b0, iv b1, iv b2, iv b3, iv b4, .unset, .unset, .unset, .unset, .unset, .unset, .unset, .unset, .unset, .unset] [(.ref ob1)])
  refine Goes.step ?_ (fun _ k => XS.astore X1.here hx rfl (hb hby at_39) rfl rfl (l' := #[iv p1, iv p2, iv p3, iv p4, iv p5, iv p6, iv (0 : Int32), iv b0, iv b1, iv b2, iv b3, iv b4, rv ob1, .unset, .unset, .unset, .unset, .unset, .unset, .unset, .unset, .unset]) rfl k)
  show Goes p e below _ (sF T1 m 41 #[iv p1, iv p2, iv p3, iv p4, iv p5, iv p6, iv (0 : Int32), iv b0, iv b1, iv b2, iv b3, iv b4, rv ob1, .unset, .unset, .unset, .unset, .unset, .unset, .unset, .unset, .unset] [])
  refine Goes.step ?_ (fun _ k => XS.goto X1.here hx rfl (pc0 := 41) (pc' := 180) rfl (hb hby at_41) (by decide) (by decide) k)
  show Goes p e below _ (sF T1 m 180 #[iv p1, iv p2, iv p3, iv p4, iv p5, iv p6, iv (0 : Int32), iv b0, iv b1, iv b2, iv b3, iv b4, rv ob1, .unset, .unset, .unset, .unset, .unset, .unset, .unset, .unset, .unset] [])
  obtain ⟨T2, h2, X2, e2, E2, A2, D2, -, st2⟩ := newO X1 hx hZ hown (hw _ (List.mem_of_getElem? (i := 2) rfl)) (hw _ (List.mem_of_getElem? (i := 3) rfl)) (hw _ (List.mem_of_getElem? (i := 4) rfl)) e1 (g := (mkF m 180 #[iv p1, iv p2, iv p3, iv p4, iv p5, iv p6, iv (0 : Int32), iv b0, iv b1, iv b2, iv b3, iv b4, rv ob1, .unset, .unset, .unset, .unset, .unset, .unset, .unset, .unset, .unset] [])) rfl (hb hby at_180) (by decide) (by decide)
  obtain ⟨ob2, g2⟩ : ∃ z, z = h1.size := ⟨_, rfl⟩
  rw [← g2] at A2 D2 st2
  have g_ob2 : n0 ≤ ob2 := Nat.le_trans Zs1 (Nat.le_of_eq g2.symm)
  have ne_ob1_ob2 : ob1 ≠ ob2 := Nat.ne_of_lt (Nat.lt_of_lt_of_le V_ob1.lt (Nat.le_of_eq g2.symm))
  have Zs2 : n0 ≤ h2.size := Nat.le_trans Zs1 E2.1
  refine Goes.step ?_ st2
  have F_count_ob2 : Fld Z h2 ob2 "com/example/borderline/borderline/Comparisons" "count" "J" (.long (0 : Int64)) := D2 (Or.inl (hw _ (List.mem_of_getElem? (i := 22) rfl))) (ty := .long) (by decide)
  show Goes p e below _ (sF T2 m 183 #[iv p1, iv p2, iv p3, iv p4, iv p5, iv p6, iv (0 : Int32), iv b0, iv b1, iv b2, iv b3, iv b4, rv ob1, .unset, .unset, .unset, .unset, .unset, .unset, .unset, .unset, .unset] [(.ref ob2)])
  refine Goes.step ?_ (fun _ k => XS.dup X2.here hx rfl (hb hby at_183) rfl rfl k)
  show Goes p e below _ (sF T2 m 184 #[iv p1, iv p2, iv p3, iv p4, iv p5, iv p6, iv (0 : Int32), iv b0, iv b1, iv b2, iv b3, iv b4, rv ob1, .unset, .unset, .unset, .unset, .unset, .unset, .unset, .unset, .unset] [(.ref ob2), (.ref ob2)])
  obtain ⟨_, _, ⟨T3, L3, k3, n3⟩, -, X3, ⟨Lc3, hQ3, l3, y3, z3⟩, st3⟩ := X2.specialBack hx (y := (⟨"com/example/borderline/borderline/Comparisons", "<init>", "()V"⟩ : MethodName)) rfl hown (mvT hZ (hw _ (List.mem_of_getElem? (i := 5) rfl))) (mvT hZ (hw _ (List.mem_of_getElem? (i := 6) rfl))) (mvT hZ (hw _ (List.mem_of_getElem? (i := 7) rfl))) (by decide) (backOf (W := 1) (rmNew l Z a0 hw [] ob2  h2 n0 Zs2 ) hZ (hw _ (List.mem_of_getElem? (i := 7) rfl)) (hw _ (List.mem_of_getElem? (i := 4) rfl)) (by decide) (by decide)) (g := (mkF m 184 #[iv p1, iv p2, iv p3, iv p4, iv p5, iv p6, iv (0 : Int32), iv b0, iv b1, iv b2, iv b3, iv b4, rv ob1, .unset, .unset, .unset, .unset, .unset, .unset, .unset, .unset, .unset] [(.ref ob2), (.ref ob2)])) rfl (by rw [hml]; rfl) (Steps.refl _) (a := ob2) (argsL := []) (rest := [(.ref ob2)]) (lenOf pd__28_29V rfl) rfl (by show 2 * 0 + _ ≤ _; exact Nat.le_of_eq rfl) (hb hby at_184) (fun _ _ => ⟨rfl, e2, (by decide : 0 + 1 + 1 + 0 ≤ _), (by decide : 0 + 0 + 1 + 0 ≤ _)⟩)
  dsimp only [Pt.U, Pt.locs, Pt.cells, Pt.slots] at X3 l3 y3 z3 st3 hQ3
  subst l3 y3 z3
  obtain ⟨rfl, N3q, e3⟩ := hQ3
  have N3 := Fr.app N0 N3q
  refine Goes.step ?_ (fun _ k => st3.trans k)
  show Goes p e below _ (sF T3 m 187 #[iv p1, iv p2, iv p3, iv p4, iv p5, iv p6, iv (0 : Int32), iv b0, iv b1, iv b2, iv b3, iv b4, rv ob1, .unset, .unset, .unset, .unset, .unset, .unset, .unset, .unset, .unset] [(.ref ob2)])
  refine Goes.step ?_ (fun _ k => XS.astore X3.here hx rfl (hb hby at_187) rfl rfl (l' := #[iv p1, iv p2, iv p3, iv p4, iv p5, iv p6, iv (0 : Int32), iv b0, iv b1, iv b2, iv b3, iv b4, rv ob1, rv ob2, .unset, .unset, .unset, .unset, .unset, .unset, .unset, .unset]) rfl k)
  show Goes p e below _ (sF T3 m 189 #[iv p1, iv p2, iv p3, iv p4, iv p5, iv p6, iv (0 : Int32), iv b0, iv b1, iv b2, iv b3, iv b4, rv ob1, rv ob2, .unset, .unset, .unset, .unset, .unset, .unset, .unset, .unset] [])
  refine Goes.step ?_ (fun _ k => XS.aload X3.here hx rfl (hb hby at_189) rfl rfl k)
  show Goes p e below _ (sF T3 m 191 #[iv p1, iv p2, iv p3, iv p4, iv p5, iv p6, iv (0 : Int32), iv b0, iv b1, iv b2, iv b3, iv b4, rv ob1, rv ob2, .unset, .unset, .unset, .unset, .unset, .unset, .unset, .unset] [(.ref ob1)])
  refine Goes.step ?_ (fun _ k => XS.aload X3.here hx rfl (hb hby at_191) rfl rfl k)
  show Goes p e below _ (sF T3 m 193 #[iv p1, iv p2, iv p3, iv p4, iv p5, iv p6, iv (0 : Int32), iv b0, iv b1, iv b2, iv b3, iv b4, rv ob1, rv ob2, .unset, .unset, .unset, .unset, .unset, .unset, .unset, .unset] [(.ref ob2), (.ref ob1)])
  have V_ob1_4 := (V_ob1.ext E2)
  obtain ⟨_, _, ⟨T5, L5, k5, n5⟩, -, X5, ⟨Lc5, hQ5, l5, y5, z5⟩, st5⟩ := Jvm.LawKit.callS X3 hx (y := (⟨"com/example/borderline/borderline/BorderTable", "shifted", "([BLcom/example/borderline/borderline/Comparisons;)[I"⟩ : MethodName)) hown (mvT hZ (hw _ (List.mem_of_getElem? (i := 11) rfl))) (mvT hZ (hw _ (List.mem_of_getElem? (i := 12) rfl))) (mvT hZ (hw _ (List.mem_of_getElem? (i := 13) rfl))) (mvT hZ (hw _ (List.mem_of_getElem? (i := 14) rfl))) (by decide) (own_backH (W := 0) (rmSh0 l Z a0 hw [] ob1 ob2 cK one k1  h2 n0 Zs2 hSame hLam V_ob1_4 F_count_ob2 A2 g_ob2) hZH (hw _ (List.mem_of_getElem? (i := 14) rfl)) (hw _ (List.mem_of_getElem? (i := 13) rfl)) (by decide) (by decide)) (g := (mkF m 193 #[iv p1, iv p2, iv p3, iv p4, iv p5, iv p6, iv (0 : Int32), iv b0, iv b1, iv b2, iv b3, iv b4, rv ob1, rv ob2, .unset, .unset, .unset, .unset, .unset, .unset, .unset, .unset] [(.ref ob2), (.ref ob1)])) rfl (by rw [hml]; rfl) (argsL := [(.ref ob1), (.ref ob2)]) (rest := []) (lenOf pd__28_5bBLcom_2fexample_2fborderline_2fborderline_2fComparisons_3b_29_5bI rfl) rfl (by show 2 * 0 + _ ≤ _; exact Nat.le_of_eq rfl) (hb hby at_193) (fun _ _ => ⟨rfl, e3, (by decide : 0 + 1 + 1 + 1 ≤ _), (by decide : 0 + 0 + 1 + 1 ≤ _)⟩)
  dsimp only [Pt.U, Pt.locs, Pt.cells, Pt.slots] at X5 l5 y5 z5 st5 hQ5
  subst l5 y5 z5
  obtain ⟨u5, ku5, q5, rfl, N5q, K5, gu5, Vu5, G5, l15, l25⟩ := hQ5
  have N5 := Fr.app N3 N5q
  refine Goes.step ?_ st5
  have g_u5 : n0 ≤ u5 := Nat.le_trans Zs2 gu5
  have ne_ob1_u5 : ob1 ≠ u5 := Nat.ne_of_lt (Nat.lt_of_lt_of_le V_ob1_4.lt gu5)
  have ne_ob2_u5 : ob2 ≠ u5 := Nat.ne_of_lt (Nat.lt_of_lt_of_le A2.lt gu5)
  have Zs5 : n0 ≤ T5.heap.size := Nat.le_trans Zs2 K5.1
  show Goes p e below _ (sF T5 m 196 #[iv p1, iv p2, iv p3, iv p4, iv p5, iv p6, iv (0 : Int32), iv b0, iv b1, iv b2, iv b3, iv b4, rv ob1, rv ob2, .unset, .unset, .unset, .unset, .unset, .unset, .unset, .unset] [(.ref u5)])
  refine Goes.step ?_ (fun _ k => XS.astore X5.here hx rfl (hb hby at_196) rfl rfl (l' := #[iv p1, iv p2, iv p3, iv p4, iv p5, iv p6, iv (0 : Int32), iv b0, iv b1, iv b2, iv b3, iv b4, rv ob1, rv ob2, rv u5, .unset, .unset, .unset, .unset, .unset, .unset, .unset]) rfl k)
  show Goes p e below _ (sF T5 m 198 #[iv p1, iv p2, iv p3, iv p4, iv p5, iv p6, iv (0 : Int32), iv b0, iv b1, iv b2, iv b3, iv b4, rv ob1, rv ob2, rv u5, .unset, .unset, .unset, .unset, .unset, .unset, .unset] [])
  refine Goes.step ?_ (fun _ k => XS.aload X5.here hx rfl (hb hby at_198) rfl rfl k)
  show Goes p e below _ (sF T5 m 200 #[iv p1, iv p2, iv p3, iv p4, iv p5, iv p6, iv (0 : Int32), iv b0, iv b1, iv b2, iv b3, iv b4, rv ob1, rv ob2, rv u5, .unset, .unset, .unset, .unset, .unset, .unset, .unset] [(.ref u5)])
  obtain ⟨cl6, Ar6, q6, S6, N_6, H6, G6⟩ := id Vu5
  refine Goes.step ?_ (fun _ k => X5.arraylength hx Ar6.1 (State.isArrayOf_alike hZ.alike Ar6.2.1) (g := (mkF m 200 #[iv p1, iv p2, iv p3, iv p4, iv p5, iv p6, iv (0 : Int32), iv b0, iv b1, iv b2, iv b3, iv b4, rv ob1, rv ob2, rv u5, .unset, .unset, .unset, .unset, .unset, .unset, .unset] [(.ref u5)])) rfl rfl (hb hby at_200) _ k)
  rw [len_of S6 N_6]
  show Goes p e below _ (sF T5 m 201 #[iv p1, iv p2, iv p3, iv p4, iv p5, iv p6, iv (0 : Int32), iv b0, iv b1, iv b2, iv b3, iv b4, rv ob1, rv ob2, rv u5, .unset, .unset, .unset, .unset, .unset, .unset, .unset] [(.int (0 : Int32))])
  refine Goes.step ?_ (fun _ k => XS.iload X5.here hx rfl (hb hby at_201) rfl  k)
  show Goes p e below _ (sF T5 m 203 #[iv p1, iv p2, iv p3, iv p4, iv p5, iv p6, iv (0 : Int32), iv b0, iv b1, iv b2, iv b3, iv b4, rv ob1, rv ob2, rv u5, .unset, .unset, .unset, .unset, .unset, .unset, .unset] [(.int (0 : Int32)), (.int (0 : Int32))])
  refine Goes.step ?_ (fun _ k => XS.icmpYes X5.here hx rfl (pc0 := 203) (pc' := 208) rfl (hb hby at_203) rfl (teq (by decide : (0 : Int32) = (0 : Int32))).1 (by decide) (by decide) k)
  show Goes p e below _ (sF T5 m 208 #[iv p1, iv p2, iv p3, iv p4, iv p5, iv p6, iv (0 : Int32), iv b0, iv b1, iv b2, iv b3, iv b4, rv ob1, rv ob2, rv u5, .unset, .unset, .unset, .unset, .unset, .unset, .unset] [])
  have V_ob1_7 := (V_ob1_4.keep K5 (ninS ne_ob1_ob2 nin0))
  have E_ob2_8 := (A2.keep K5)
  exact tail208 p1 p2 p3 p4 p5 p6 (0 : Int32) b0 b1 b2 b3 b4 ob1 ob2 u5 k1 ku5 _ _ q5 (X5.mono (by decide) (by decide)) hx hZ hw hby hlk hret hml hown rfl N5 Zs5 V_ob1_7 Vu5 G5 E_ob2_8 (fun h => absurd h (by decide)) (fun h => absurd h (by decide)) (fun h => absurd h (by decide)) (fun h => absurd h (by decide)) (fun h => absurd h (by decide)) (fun h => absurd h (by decide)) (fun h => absurd h (by decide)) (fun h => absurd h (by decide)) (fun h => absurd h (by decide)) (fun h => absurd h (by decide)) (by rw [show maxV ((0 : Int32) - (2 : Int32)) (0 : Int32) = (0 : Int32) from by decide]; exact l15) (by rw [show maxV (((2 : Int32) * (0 : Int32)) - (4 : Int32)) (0 : Int32) = (0 : Int32) from by decide]; exact l25)
set_option maxRecDepth 65536 in
set_option maxHeartbeats 40000000 in
theorem tail31_1 {p : Program} {l : Launch} {e : Env} {s : State} {m : MethodId} {args : Array Value} {below : List Frame} {meth : Method} {c : Code} {T0 : State} {locs : List Loc} {Z : State} {a0 : Array Value} {h0 : Heap} {n0 : Nat} (p1 : Int32) (p2 : Int32) (p3 : Int32) (p4 : Int32) (p5 : Int32) (p6 : Int32) (b0 : Int32) (b1 : Int32) (b2 : Int32) (b3 : Int32) (b4 : Int32) (cK : ClassId) (one : Option Addr)
    (X0 : Stand p l e room_1 s m args below meth c T0 locs (0) (0)) (hx : p.tables.exec = Jvm.exec) (hZ : Z.Warmed39 s.vm) (hw : ∀ d ∈ tables_1, d.before a0 Z = true) (hby : c.code = code) (hlk : meth.locks = false) (hret : meth.sig.returnType = some .boolean) (hml : c.maxLocals = 22) (hown : s.vm.findClass "com/example/borderline/borderline/BorderTableShiftedPinLaw" = some m.cls) (e0 : T0.heap = h0) (N0 : Fr n0 locs) (Z0 : n0 ≤ h0.size) (hZH : Z.WarmedH s.vm) (hSame : Z.sameButNew Z [] 0 0) (hLam : Z.lambdaAt? symN 1 30 sgm = some (cK, one)) (hb0 : b0.toInt8.toInt32 = b0) (hb1 : b1.toInt8.toInt32 = b1) (hb2 : b2.toInt8.toInt32 = b2) (hb3 : b3.toInt8.toInt32 = b3) (hb4 : b4.toInt8.toInt32 = b4) :
    Goes p e below (fun o U' => ∃ v L, o = .returned v ∧ Q0 n0 v U'.heap L ∧ FrameEnd s o U' L room_1.cells room_1.slots) (T0.setTop (mkF m 31 #[iv p1, iv p2, iv p3, iv p4, iv p5, iv p6, iv (1 : Int32), iv b0, iv b1, iv b2, iv b3, iv b4, .unset, .unset, .unset, .unset, .unset, .unset, .unset, .unset, .unset, .unset] [])) := by
  show Goes p e below _ (sF T0 m 31 #[iv p1, iv p2, iv p3, iv p4, iv p5, iv p6, iv (1 : Int32), iv b0, iv b1, iv b2, iv b3, iv b4, .unset, .unset, .unset, .unset, .unset, .unset, .unset, .unset, .unset, .unset] [])
  refine Goes.step ?_ (fun _ k => XS.iload X0.here hx rfl (hb hby at_31) rfl  k)
  show Goes p e below _ (sF T0 m 33 #[iv p1, iv p2, iv p3, iv p4, iv p5, iv p6, iv (1 : Int32), iv b0, iv b1, iv b2, iv b3, iv b4, .unset, .unset, .unset, .unset, .unset, .unset, .unset, .unset, .unset, .unset] [(.int (1 : Int32))])
  refine Goes.step ?_ (fun _ k => XS.ifYes X0.here hx rfl (pc0 := 33) (pc' := 44) rfl (hb hby at_33) rfl ((if0 _ _).trans (feq (by decide : ¬ ((1 : Int32) = (0 : Int32)))).2) (by decide) (by decide) k)
  show Goes p e below _ (sF T0 m 44 #[iv p1, iv p2, iv p3, iv p4, iv p5, iv p6, iv (1 : Int32), iv b0, iv b1, iv b2, iv b3, iv b4, .unset, .unset, .unset, .unset, .unset, .unset, .unset, .unset, .unset, .unset] [])
  refine Goes.step ?_ (fun _ k => XS.iload X0.here hx rfl (hb hby at_44) rfl  k)
  show Goes p e below _ (sF T0 m 46 #[iv p1, iv p2, iv p3, iv p4, iv p5, iv p6, iv (1 : Int32), iv b0, iv b1, iv b2, iv b3, iv b4, .unset, .unset, .unset, .unset, .unset, .unset, .unset, .unset, .unset, .unset] [(.int (1 : Int32))])
  refine Goes.step ?_ (fun _ k => XS.iconst X0.here hx rfl (hb hby at_46) k)
  show Goes p e below _ (sF T0 m 47 #[iv p1, iv p2, iv p3, iv p4, iv p5, iv p6, iv (1 : Int32), iv b0, iv b1, iv b2, iv b3, iv b4, .unset, .unset, .unset, .unset, .unset, .unset, .unset, .unset, .unset, .unset] [(.int (1 : Int32)), (.int (1 : Int32))])
  refine Goes.step ?_ (fun _ k => XS.icmpNo X0.here hx rfl (hb hby at_47) rfl (teq (by decide : (1 : Int32) = (1 : Int32))).2 k)
  show Goes p e below _ (sF T0 m 50 #[iv p1, iv p2, iv p3, iv p4, iv p5, iv p6, iv (1 : Int32), iv b0, iv b1, iv b2, iv b3, iv b4, .unset, .unset, .unset, .unset, .unset, .unset, .unset, .unset, .unset, .unset] [])
  refine Goes.step ?_ (fun _ k => XS.iconst X0.here hx rfl (hb hby at_50) k)
  show Goes p e below _ (sF T0 m 51 #[iv p1, iv p2, iv p3, iv p4, iv p5, iv p6, iv (1 : Int32), iv b0, iv b1, iv b2, iv b3, iv b4, .unset, .unset, .unset, .unset, .unset, .unset, .unset, .unset, .unset, .unset] [(.int (1 : Int32))])
  obtain ⟨T1, h1, k1, X1, e1, E1, A1, st1⟩ := newP X0 hx hZ (hw _ (List.mem_of_getElem? (i := 1) rfl)) e0 (g := (mkF m 51 #[iv p1, iv p2, iv p3, iv p4, iv p5, iv p6, iv (1 : Int32), iv b0, iv b1, iv b2, iv b3, iv b4, .unset, .unset, .unset, .unset, .unset, .unset, .unset, .unset, .unset, .unset] [(.int (1 : Int32))])) rfl (hb hby at_51) rfl (by decide) (cap := 1) (by decide) (by decide) (by decide) (by decide)
  obtain ⟨ob1, g1⟩ : ∃ z, z = h0.size := ⟨_, rfl⟩
  rw [← g1] at A1 st1
  have g_ob1 : n0 ≤ ob1 := Nat.le_trans Z0 (Nat.le_of_eq g1.symm)
  have Zs1 : n0 ≤ h1.size := Nat.le_trans Z0 E1.1
  refine Goes.step ?_ st1
  have V_ob1 : Arv Z h1 ob1 k1 .byte (1 : Int32) [(.int (0 : Int32))] (.int (0 : Int32)) := (Arv.new A1 (by decide)).pad (pad_rep [] (.int (0 : Int32)) 1)
  show Goes p e below _ (sF T1 m 53 #[iv p1, iv p2, iv p3, iv p4, iv p5, iv p6, iv (1 : Int32), iv b0, iv b1, iv b2, iv b3, iv b4, .unset, .unset, .unset, .unset, .unset, .unset, .unset, .unset, .unset, .unset] [(.ref ob1)])
  refine Goes.step ?_ (fun _ k => XS.dup X1.here hx rfl (hb hby at_53) rfl rfl k)
  show Goes p e below _ (sF T1 m 54 #[iv p1, iv p2, iv p3, iv p4, iv p5, iv p6, iv (1 : Int32), iv b0, iv b1, iv b2, iv b3, iv b4, .unset, .unset, .unset, .unset, .unset, .unset, .unset, .unset, .unset, .unset] [(.ref ob1), (.ref ob1)])
  refine Goes.step ?_ (fun _ k => XS.iconst X1.here hx rfl (hb hby at_54) k)
  show Goes p e below _ (sF T1 m 55 #[iv p1, iv p2, iv p3, iv p4, iv p5, iv p6, iv (1 : Int32), iv b0, iv b1, iv b2, iv b3, iv b4, .unset, .unset, .unset, .unset, .unset, .unset, .unset, .unset, .unset, .unset] [(.int (0 : Int32)), (.ref ob1), (.ref ob1)])
  refine Goes.step ?_ (fun _ k => XS.iload X1.here hx rfl (hb hby at_55) rfl  k)
  show Goes p e below _ (sF T1 m 57 #[iv p1, iv p2, iv p3, iv p4, iv p5, iv p6, iv (1 : Int32), iv b0, iv b1, iv b2, iv b3, iv b4, .unset, .unset, .unset, .unset, .unset, .unset, .unset, .unset, .unset, .unset] [(.int b0), (.int (0 : Int32)), (.ref ob1), (.ref ob1)])
  obtain ⟨cl2, Ar2, q2, S2, N_2, H2, G2⟩ := id V_ob1
  have hin3 : ¬ ((0 : Int32) < 0 ∨ cl2.slots.size ≤ ((0 : Int32)).toNatClampNeg) := inb_of S2 ⟨by decide, by decide⟩
  obtain ⟨T3, h3, X3, e3, W3, st3⟩ := stB X1 hx hZ e1 Ar2 (j := (0 : Int32)) hin3 (g := (mkF m 57 #[iv p1, iv p2, iv p3, iv p4, iv p5, iv p6, iv (1 : Int32), iv b0, iv b1, iv b2, iv b3, iv b4, .unset, .unset, .unset, .unset, .unset, .unset, .unset, .unset, .unset, .unset] [(.int b0), (.int (0 : Int32)), (.ref ob1), (.ref ob1)])) rfl rfl (hb hby at_57)
  have V0_3 : Arv Z h3 ob1 k1 .byte (1 : Int32) [(.int (b0.toInt8.toInt32))] (.int (0 : Int32)) := Arv.set Ar2 q2 S2 N_2 H2 G2 (fits_nar_byte _) W3 0 rfl (Nat.le_of_ble_eq_true rfl)
  have V_3 : Arv Z h3 ob1 k1 .byte (1 : Int32) [(.int b0)] (.int (0 : Int32)) := by rw [hb0] at V0_3; exact V0_3
  have Zs3 : n0 ≤ h3.size := Nat.le_trans Zs1 (Keep.of_wr W3).1
  have N3 := Fr.snoc X3 N0 g_ob1
  refine Goes.step ?_ st3
  show Goes p e below _ (sF T3 m 58 #[iv p1, iv p2, iv p3, iv p4, iv p5, iv p6, iv (1 : Int32), iv b0, iv b1, iv b2, iv b3, iv b4, .unset, .unset, .unset, .unset, .unset, .unset, .unset, .unset, .unset, .unset] [(.ref ob1)])
  refine Goes.step ?_ (fun _ k => XS.astore X3.here hx rfl (hb hby at_58) rfl rfl (l' := #[iv p1, iv p2, iv p3, iv p4, iv p5, iv p6, iv (1 : Int32), iv b0, iv b1, iv b2, iv b3, iv b4, rv ob1, .unset, .unset, .unset, .unset, .unset, .unset, .unset, .unset, .unset]) rfl k)
  show Goes p e below _ (sF T3 m 60 #[iv p1, iv p2, iv p3, iv p4, iv p5, iv p6, iv (1 : Int32), iv b0, iv b1, iv b2, iv b3, iv b4, rv ob1, .unset, .unset, .unset, .unset, .unset, .unset, .unset, .unset, .unset] [])
  refine Goes.step ?_ (fun _ k => XS.goto X3.here hx rfl (pc0 := 60) (pc' := 180) rfl (hb hby at_60) (by decide) (by decide) k)
  show Goes p e below _ (sF T3 m 180 #[iv p1, iv p2, iv p3, iv p4, iv p5, iv p6, iv (1 : Int32), iv b0, iv b1, iv b2, iv b3, iv b4, rv ob1, .unset, .unset, .unset, .unset, .unset, .unset, .unset, .unset, .unset] [])
  obtain ⟨T4, h4, X4, e4, E4, A4, D4, -, st4⟩ := newO X3 hx hZ hown (hw _ (List.mem_of_getElem? (i := 2) rfl)) (hw _ (List.mem_of_getElem? (i := 3) rfl)) (hw _ (List.mem_of_getElem? (i := 4) rfl)) e3 (g := (mkF m 180 #[iv p1, iv p2, iv p3, iv p4, iv p5, iv p6, iv (1 : Int32), iv b0, iv b1, iv b2, iv b3, iv b4, rv ob1, .unset, .unset, .unset, .unset, .unset, .unset, .unset, .unset, .unset] [])) rfl (hb hby at_180) (by decide) (by decide)
  obtain ⟨ob4, g4⟩ : ∃ z, z = h3.size := ⟨_, rfl⟩
  rw [← g4] at A4 D4 st4
  have g_ob4 : n0 ≤ ob4 := Nat.le_trans Zs3 (Nat.le_of_eq g4.symm)
  have ne_ob1_ob4 : ob1 ≠ ob4 := Nat.ne_of_lt (Nat.lt_of_lt_of_le V_3.lt (Nat.le_of_eq g4.symm))
  have Zs4 : n0 ≤ h4.size := Nat.le_trans Zs3 E4.1
  refine Goes.step ?_ st4
  have F_count_ob4 : Fld Z h4 ob4 "com/example/borderline/borderline/Comparisons" "count" "J" (.long (0 : Int64)) := D4 (Or.inl (hw _ (List.mem_of_getElem? (i := 22) rfl))) (ty := .long) (by decide)
  show Goes p e below _ (sF T4 m 183 #[iv p1, iv p2, iv p3, iv p4, iv p5, iv p6, iv (1 : Int32), iv b0, iv b1, iv b2, iv b3, iv b4, rv ob1, .unset, .unset, .unset, .unset, .unset, .unset, .unset, .unset, .unset] [(.ref ob4)])
  refine Goes.step ?_ (fun _ k => XS.dup X4.here hx rfl (hb hby at_183) rfl rfl k)
  show Goes p e below _ (sF T4 m 184 #[iv p1, iv p2, iv p3, iv p4, iv p5, iv p6, iv (1 : Int32), iv b0, iv b1, iv b2, iv b3, iv b4, rv ob1, .unset, .unset, .unset, .unset, .unset, .unset, .unset, .unset, .unset] [(.ref ob4), (.ref ob4)])
  obtain ⟨_, _, ⟨T5, L5, k5, n5⟩, -, X5, ⟨Lc5, hQ5, l5, y5, z5⟩, st5⟩ := X4.specialBack hx (y := (⟨"com/example/borderline/borderline/Comparisons", "<init>", "()V"⟩ : MethodName)) rfl hown (mvT hZ (hw _ (List.mem_of_getElem? (i := 5) rfl))) (mvT hZ (hw _ (List.mem_of_getElem? (i := 6) rfl))) (mvT hZ (hw _ (List.mem_of_getElem? (i := 7) rfl))) (by decide) (backOf (W := 1) (rmNew l Z a0 hw [] ob4  h4 n0 Zs4 ) hZ (hw _ (List.mem_of_getElem? (i := 7) rfl)) (hw _ (List.mem_of_getElem? (i := 4) rfl)) (by decide) (by decide)) (g := (mkF m 184 #[iv p1, iv p2, iv p3, iv p4, iv p5, iv p6, iv (1 : Int32), iv b0, iv b1, iv b2, iv b3, iv b4, rv ob1, .unset, .unset, .unset, .unset, .unset, .unset, .unset, .unset, .unset] [(.ref ob4), (.ref ob4)])) rfl (by rw [hml]; rfl) (Steps.refl _) (a := ob4) (argsL := []) (rest := [(.ref ob4)]) (lenOf pd__28_29V rfl) rfl (by show 2 * 0 + _ ≤ _; exact Nat.le_of_eq rfl) (hb hby at_184) (fun _ _ => ⟨rfl, e4, (by decide : 0 + 1 + 1 + 0 ≤ _), (by decide : 0 + 1 + 1 + 0 ≤ _)⟩)
  dsimp only [Pt.U, Pt.locs, Pt.cells, Pt.slots] at X5 l5 y5 z5 st5 hQ5
  subst l5 y5 z5
  obtain ⟨rfl, N5q, e5⟩ := hQ5
  have N5 := Fr.app N3 N5q
  refine Goes.step ?_ (fun _ k => st5.trans k)
  show Goes p e below _ (sF T5 m 187 #[iv p1, iv p2, iv p3, iv p4, iv p5, iv p6, iv (1 : Int32), iv b0, iv b1, iv b2, iv b3, iv b4, rv ob1, .unset, .unset, .unset, .unset, .unset, .unset, .unset, .unset, .unset] [(.ref ob4)])
  refine Goes.step ?_ (fun _ k => XS.astore X5.here hx rfl (hb hby at_187) rfl rfl (l' := #[iv p1, iv p2, iv p3, iv p4, iv p5, iv p6, iv (1 : Int32), iv b0, iv b1, iv b2, iv b3, iv b4, rv ob1, rv ob4, .unset, .unset, .unset, .unset, .unset, .unset, .unset, .unset]) rfl k)
  show Goes p e below _ (sF T5 m 189 #[iv p1, iv p2, iv p3, iv p4, iv p5, iv p6, iv (1 : Int32), iv b0, iv b1, iv b2, iv b3, iv b4, rv ob1, rv ob4, .unset, .unset, .unset, .unset, .unset, .unset, .unset, .unset] [])
  refine Goes.step ?_ (fun _ k => XS.aload X5.here hx rfl (hb hby at_189) rfl rfl k)
  show Goes p e below _ (sF T5 m 191 #[iv p1, iv p2, iv p3, iv p4, iv p5, iv p6, iv (1 : Int32), iv b0, iv b1, iv b2, iv b3, iv b4, rv ob1, rv ob4, .unset, .unset, .unset, .unset, .unset, .unset, .unset, .unset] [(.ref ob1)])
  refine Goes.step ?_ (fun _ k => XS.aload X5.here hx rfl (hb hby at_191) rfl rfl k)
  show Goes p e below _ (sF T5 m 193 #[iv p1, iv p2, iv p3, iv p4, iv p5, iv p6, iv (1 : Int32), iv b0, iv b1, iv b2, iv b3, iv b4, rv ob1, rv ob4, .unset, .unset, .unset, .unset, .unset, .unset, .unset, .unset] [(.ref ob4), (.ref ob1)])
  have V_ob1_6 := (V_3.ext E4)
  obtain ⟨_, _, ⟨T7, L7, k7, n7⟩, -, X7, ⟨Lc7, hQ7, l7, y7, z7⟩, st7⟩ := Jvm.LawKit.callS X5 hx (y := (⟨"com/example/borderline/borderline/BorderTable", "shifted", "([BLcom/example/borderline/borderline/Comparisons;)[I"⟩ : MethodName)) hown (mvT hZ (hw _ (List.mem_of_getElem? (i := 11) rfl))) (mvT hZ (hw _ (List.mem_of_getElem? (i := 12) rfl))) (mvT hZ (hw _ (List.mem_of_getElem? (i := 13) rfl))) (mvT hZ (hw _ (List.mem_of_getElem? (i := 14) rfl))) (by decide) (own_backH (W := 0) (rmSh1 l Z a0 hw [] ob1 ob4 cK one k1 b0 h4 n0 Zs4 hSame hLam V_ob1_6 F_count_ob4 A4 g_ob4) hZH (hw _ (List.mem_of_getElem? (i := 14) rfl)) (hw _ (List.mem_of_getElem? (i := 13) rfl)) (by decide) (by decide)) (g := (mkF m 193 #[iv p1, iv p2, iv p3, iv p4, iv p5, iv p6, iv (1 : Int32), iv b0, iv b1, iv b2, iv b3, iv b4, rv ob1, rv ob4, .unset, .unset, .unset, .unset, .unset, .unset, .unset, .unset] [(.ref ob4), (.ref ob1)])) rfl (by rw [hml]; rfl) (argsL := [(.ref ob1), (.ref ob4)]) (rest := []) (lenOf pd__28_5bBLcom_2fexample_2fborderline_2fborderline_2fComparisons_3b_29_5bI rfl) rfl (by show 2 * 0 + _ ≤ _; exact Nat.le_of_eq rfl) (hb hby at_193) (fun _ _ => ⟨rfl, e5, (by decide : 0 + 1 + 1 + 2 ≤ _), (by decide : 0 + 1 + 1 + 2 ≤ _)⟩)
  dsimp only [Pt.U, Pt.locs, Pt.cells, Pt.slots] at X7 l7 y7 z7 st7 hQ7
  subst l7 y7 z7
  obtain ⟨u7, ku7, q7, rfl, N7q, K7, gu7, Vu7, G7, l17, l27⟩ := hQ7
  have N7 := Fr.app N5 N7q
  refine Goes.step ?_ st7
  have g_u7 : n0 ≤ u7 := Nat.le_trans Zs4 gu7
  have ne_ob1_u7 : ob1 ≠ u7 := Nat.ne_of_lt (Nat.lt_of_lt_of_le V_ob1_6.lt gu7)
  have ne_ob4_u7 : ob4 ≠ u7 := Nat.ne_of_lt (Nat.lt_of_lt_of_le A4.lt gu7)
  have Zs7 : n0 ≤ T7.heap.size := Nat.le_trans Zs4 K7.1
  show Goes p e below _ (sF T7 m 196 #[iv p1, iv p2, iv p3, iv p4, iv p5, iv p6, iv (1 : Int32), iv b0, iv b1, iv b2, iv b3, iv b4, rv ob1, rv ob4, .unset, .unset, .unset, .unset, .unset, .unset, .unset, .unset] [(.ref u7)])
  refine Goes.step ?_ (fun _ k => XS.astore X7.here hx rfl (hb hby at_196) rfl rfl (l' := #[iv p1, iv p2, iv p3, iv p4, iv p5, iv p6, iv (1 : Int32), iv b0, iv b1, iv b2, iv b3, iv b4, rv ob1, rv ob4, rv u7, .unset, .unset, .unset, .unset, .unset, .unset, .unset]) rfl k)
  show Goes p e below _ (sF T7 m 198 #[iv p1, iv p2, iv p3, iv p4, iv p5, iv p6, iv (1 : Int32), iv b0, iv b1, iv b2, iv b3, iv b4, rv ob1, rv ob4, rv u7, .unset, .unset, .unset, .unset, .unset, .unset, .unset] [])
  refine Goes.step ?_ (fun _ k => XS.aload X7.here hx rfl (hb hby at_198) rfl rfl k)
  show Goes p e below _ (sF T7 m 200 #[iv p1, iv p2, iv p3, iv p4, iv p5, iv p6, iv (1 : Int32), iv b0, iv b1, iv b2, iv b3, iv b4, rv ob1, rv ob4, rv u7, .unset, .unset, .unset, .unset, .unset, .unset, .unset] [(.ref u7)])
  obtain ⟨cl8, Ar8, q8, S8, N_8, H8, G8⟩ := id Vu7
  refine Goes.step ?_ (fun _ k => X7.arraylength hx Ar8.1 (State.isArrayOf_alike hZ.alike Ar8.2.1) (g := (mkF m 200 #[iv p1, iv p2, iv p3, iv p4, iv p5, iv p6, iv (1 : Int32), iv b0, iv b1, iv b2, iv b3, iv b4, rv ob1, rv ob4, rv u7, .unset, .unset, .unset, .unset, .unset, .unset, .unset] [(.ref u7)])) rfl rfl (hb hby at_200) _ k)
  rw [len_of S8 N_8]
  show Goes p e below _ (sF T7 m 201 #[iv p1, iv p2, iv p3, iv p4, iv p5, iv p6, iv (1 : Int32), iv b0, iv b1, iv b2, iv b3, iv b4, rv ob1, rv ob4, rv u7, .unset, .unset, .unset, .unset, .unset, .unset, .unset] [(.int (1 : Int32))])
  refine Goes.step ?_ (fun _ k => XS.iload X7.here hx rfl (hb hby at_201) rfl  k)
  show Goes p e below _ (sF T7 m 203 #[iv p1, iv p2, iv p3, iv p4, iv p5, iv p6, iv (1 : Int32), iv b0, iv b1, iv b2, iv b3, iv b4, rv ob1, rv ob4, rv u7, .unset, .unset, .unset, .unset, .unset, .unset, .unset] [(.int (1 : Int32)), (.int (1 : Int32))])
  refine Goes.step ?_ (fun _ k => XS.icmpYes X7.here hx rfl (pc0 := 203) (pc' := 208) rfl (hb hby at_203) rfl (teq (by decide : (1 : Int32) = (1 : Int32))).1 (by decide) (by decide) k)
  show Goes p e below _ (sF T7 m 208 #[iv p1, iv p2, iv p3, iv p4, iv p5, iv p6, iv (1 : Int32), iv b0, iv b1, iv b2, iv b3, iv b4, rv ob1, rv ob4, rv u7, .unset, .unset, .unset, .unset, .unset, .unset, .unset] [])
  have V_ob1_9 := (V_ob1_6.keep K7 (ninS ne_ob1_ob4 nin0))
  have E_ob4_10 := (A4.keep K7)
  exact tail208 p1 p2 p3 p4 p5 p6 (1 : Int32) b0 b1 b2 b3 b4 ob1 ob4 u7 k1 ku7 _ _ q7 (X7.mono (by decide) (by decide)) hx hZ hw hby hlk hret hml hown rfl N7 Zs7 V_ob1_9 Vu7 G7 E_ob4_10 (fun _ => rfl) (fun h => absurd h (by decide)) (fun h => absurd h (by decide)) (fun h => absurd h (by decide)) (fun h => absurd h (by decide)) (fun _ => rfl) (fun h => absurd h (by decide)) (fun h => absurd h (by decide)) (fun h => absurd h (by decide)) (fun h => absurd h (by decide)) (by rw [show maxV ((1 : Int32) - (2 : Int32)) (0 : Int32) = (0 : Int32) from by decide]; exact l17) (by rw [show maxV (((2 : Int32) * (1 : Int32)) - (4 : Int32)) (0 : Int32) = (0 : Int32) from by decide]; exact l27)
set_option maxRecDepth 65536 in
set_option maxHeartbeats 40000000 in
theorem tail31_2 {p : Program} {l : Launch} {e : Env} {s : State} {m : MethodId} {args : Array Value} {below : List Frame} {meth : Method} {c : Code} {T0 : State} {locs : List Loc} {Z : State} {a0 : Array Value} {h0 : Heap} {n0 : Nat} (p1 : Int32) (p2 : Int32) (p3 : Int32) (p4 : Int32) (p5 : Int32) (p6 : Int32) (b0 : Int32) (b1 : Int32) (b2 : Int32) (b3 : Int32) (b4 : Int32) (cK : ClassId) (one : Option Addr)
    (X0 : Stand p l e room_1 s m args below meth c T0 locs (0) (0)) (hx : p.tables.exec = Jvm.exec) (hZ : Z.Warmed39 s.vm) (hw : ∀ d ∈ tables_1, d.before a0 Z = true) (hby : c.code = code) (hlk : meth.locks = false) (hret : meth.sig.returnType = some .boolean) (hml : c.maxLocals = 22) (hown : s.vm.findClass "com/example/borderline/borderline/BorderTableShiftedPinLaw" = some m.cls) (e0 : T0.heap = h0) (N0 : Fr n0 locs) (Z0 : n0 ≤ h0.size) (hZH : Z.WarmedH s.vm) (hSame : Z.sameButNew Z [] 0 0) (hLam : Z.lambdaAt? symN 1 30 sgm = some (cK, one)) (hb0 : b0.toInt8.toInt32 = b0) (hb1 : b1.toInt8.toInt32 = b1) (hb2 : b2.toInt8.toInt32 = b2) (hb3 : b3.toInt8.toInt32 = b3) (hb4 : b4.toInt8.toInt32 = b4) :
    Goes p e below (fun o U' => ∃ v L, o = .returned v ∧ Q0 n0 v U'.heap L ∧ FrameEnd s o U' L room_1.cells room_1.slots) (T0.setTop (mkF m 31 #[iv p1, iv p2, iv p3, iv p4, iv p5, iv p6, iv (2 : Int32), iv b0, iv b1, iv b2, iv b3, iv b4, .unset, .unset, .unset, .unset, .unset, .unset, .unset, .unset, .unset, .unset] [])) := by
  show Goes p e below _ (sF T0 m 31 #[iv p1, iv p2, iv p3, iv p4, iv p5, iv p6, iv (2 : Int32), iv b0, iv b1, iv b2, iv b3, iv b4, .unset, .unset, .unset, .unset, .unset, .unset, .unset, .unset, .unset, .unset] [])
  refine Goes.step ?_ (fun _ k => XS.iload X0.here hx rfl (hb hby at_31) rfl  k)
  show Goes p e below _ (sF T0 m 33 #[iv p1, iv p2, iv p3, iv p4, iv p5, iv p6, iv (2 : Int32), iv b0, iv b1, iv b2, iv b3, iv b4, .unset, .unset, .unset, .unset, .unset, .unset, .unset, .unset, .unset, .unset] [(.int (2 : Int32))])
  refine Goes.step ?_ (fun _ k => XS.ifYes X0.here hx rfl (pc0 := 33) (pc' := 44) rfl (hb hby at_33) rfl ((if0 _ _).trans (feq (by decide : ¬ ((2 : Int32) = (0 : Int32)))).2) (by decide) (by decide) k)
  show Goes p e below _ (sF T0 m 44 #[iv p1, iv p2, iv p3, iv p4, iv p5, iv p6, iv (2 : Int32), iv b0, iv b1, iv b2, iv b3, iv b4, .unset, .unset, .unset, .unset, .unset, .unset, .unset, .unset, .unset, .unset] [])
  refine Goes.step ?_ (fun _ k => XS.iload X0.here hx rfl (hb hby at_44) rfl  k)
  show Goes p e below _ (sF T0 m 46 #[iv p1, iv p2, iv p3, iv p4, iv p5, iv p6, iv (2 : Int32), iv b0, iv b1, iv b2, iv b3, iv b4, .unset, .unset, .unset, .unset, .unset, .unset, .unset, .unset, .unset, .unset] [(.int (2 : Int32))])
  refine Goes.step ?_ (fun _ k => XS.iconst X0.here hx rfl (hb hby at_46) k)
  show Goes p e below _ (sF T0 m 47 #[iv p1, iv p2, iv p3, iv p4, iv p5, iv p6, iv (2 : Int32), iv b0, iv b1, iv b2, iv b3, iv b4, .unset, .unset, .unset, .unset, .unset, .unset, .unset, .unset, .unset, .unset] [(.int (1 : Int32)), (.int (2 : Int32))])
  refine Goes.step ?_ (fun _ k => XS.icmpYes X0.here hx rfl (pc0 := 47) (pc' := 63) rfl (hb hby at_47) rfl (feq (by decide : ¬ ((2 : Int32) = (1 : Int32)))).2 (by decide) (by decide) k)
  show Goes p e below _ (sF T0 m 63 #[iv p1, iv p2, iv p3, iv p4, iv p5, iv p6, iv (2 : Int32), iv b0, iv b1, iv b2, iv b3, iv b4, .unset, .unset, .unset, .unset, .unset, .unset, .unset, .unset, .unset, .unset] [])
  refine Goes.step ?_ (fun _ k => XS.iload X0.here hx rfl (hb hby at_63) rfl  k)
  show Goes p e below _ (sF T0 m 65 #[iv p1, iv p2, iv p3, iv p4, iv p5, iv p6, iv (2 : Int32), iv b0, iv b1, iv b2, iv b3, iv b4, .unset, .unset, .unset, .unset, .unset, .unset, .unset, .unset, .unset, .unset] [(.int (2 : Int32))])
  refine Goes.step ?_ (fun _ k => XS.iconst X0.here hx rfl (hb hby at_65) k)
  show Goes p e below _ (sF T0 m 66 #[iv p1, iv p2, iv p3, iv p4, iv p5, iv p6, iv (2 : Int32), iv b0, iv b1, iv b2, iv b3, iv b4, .unset, .unset, .unset, .unset, .unset, .unset, .unset, .unset, .unset, .unset] [(.int (2 : Int32)), (.int (2 : Int32))])
  refine Goes.step ?_ (fun _ k => XS.icmpNo X0.here hx rfl (hb hby at_66) rfl (teq (by decide : (2 : Int32) = (2 : Int32))).2 k)
  show Goes p e below _ (sF T0 m 69 #[iv p1, iv p2, iv p3, iv p4, iv p5, iv p6, iv (2 : Int32), iv b0, iv b1, iv b2, iv b3, iv b4, .unset, .unset, .unset, .unset, .unset, .unset, .unset, .unset, .unset, .unset] [])
  refine Goes.step ?_ (fun _ k => XS.iconst X0.here hx rfl (hb hby at_69) k)
  show Goes p e below _ (sF T0 m 70 #[iv p1, iv p2, iv p3, iv p4, iv p5, iv p6, iv (2 : Int32), iv b0, iv b1, iv b2, iv b3, iv b4, .unset, .unset, .unset, .unset, .unset, .unset, .unset, .unset, .unset, .unset] [(.int (2 : Int32))])
  obtain ⟨T1, h1, k1, X1, e1, E1, A1, st1⟩ := newP X0 hx hZ (hw _ (List.mem_of_getElem? (i := 1) rfl)) e0 (g := (mkF m 70 #[iv p1, iv p2, iv p3, iv p4, iv p5, iv p6, iv (2 : Int32), iv b0, iv b1, iv b2, iv b3, iv b4, .unset, .unset, .unset, .unset, .unset, .unset, .unset, .unset, .unset, .unset] [(.int (2 : Int32))])) rfl (hb hby at_70) rfl (by decide) (cap := 2) (by decide) (by decide) (by decide) (by decide)
  obtain ⟨ob1, g1⟩ : ∃ z, z = h0.size := ⟨_, rfl⟩
  rw [← g1] at A1 st1
  have g_ob1 : n0 ≤ ob1 := Nat.le_trans Z0 (Nat.le_of_eq g1.symm)
  have Zs1 : n0 ≤ h1.size := Nat.le_trans Z0 E1.1
  refine Goes.step ?_ st1
  have V_ob1 : Arv Z h1 ob1 k1 .byte (2 : Int32) [(.int (0 : Int32)), (.int (0 : Int32))] (.int (0 : Int32)) := (Arv.new A1 (by decide)).pad (pad_rep [] (.int (0 : Int32)) 2)
  show Goes p e below _ (sF T1 m 72 #[iv p1, iv p2, iv p3, iv p4, iv p5, iv p6, iv (2 : Int32), iv b0, iv b1, iv b2, iv b3, iv b4, .unset, .unset, .unset, .unset, .unset, .unset, .unset, .unset, .unset, .unset] [(.ref ob1)])
  refine Goes.step ?_ (fun _ k => XS.dup X1.here hx rfl (hb hby at_72) rfl rfl k)
  show Goes p e below _ (sF T1 m 73 #[iv p1, iv p2, iv p3, iv p4, iv p5, iv p6, iv (2 : Int32), iv b0, iv b1, iv b2, iv b3, iv b4, .unset, .unset, .unset, .unset, .unset, .unset, .unset, .unset, .unset, .unset] [(.ref ob1), (.ref ob1)])
  refine Goes.step ?_ (fun _ k => XS.iconst X1.here hx rfl (hb hby at_73) k)
  show Goes p e below _ (sF T1 m 74 #[iv p1, iv p2, iv p3, iv p4, iv p5, iv p6, iv (2 : Int32), iv b0, iv b1, iv b2, iv b3, iv b4, .unset, .unset, .unset, .unset, .unset, .unset, .unset, .unset, .unset, .unset] [(.int (0 : Int32)), (.ref ob1), (.ref ob1)])
  refine Goes.step ?_ (fun _ k => XS.iload X1.here hx rfl (hb hby at_74) rfl  k)
  show Goes p e below _ (sF T1 m 76 #[iv p1, iv p2, iv p3, iv p4, iv p5, iv p6, iv (2 : Int32), iv b0, iv b1, iv b2, iv b3, iv b4, .unset, .unset, .unset, .unset, .unset, .unset, .unset, .unset, .unset, .unset] [(.int b0), (.int (0 : Int32)), (.ref ob1), (.ref ob1)])
  obtain ⟨cl2, Ar2, q2, S2, N_2, H2, G2⟩ := id V_ob1
  have hin3 : ¬ ((0 : Int32) < 0 ∨ cl2.slots.size ≤ ((0 : Int32)).toNatClampNeg) := inb_of S2 ⟨by decide, by decide⟩
  obtain ⟨T3, h3, X3, e3, W3, st3⟩ := stB X1 hx hZ e1 Ar2 (j := (0 : Int32)) hin3 (g := (mkF m 76 #[iv p1, iv p2, iv p3, iv p4, iv p5, iv p6, iv (2 : Int32), iv b0, iv b1, iv b2, iv b3, iv b4, .unset, .unset, .unset, .unset, .unset, .unset, .unset, .unset, .unset, .unset] [(.int b0), (.int (0 : Int32)), (.ref ob1), (.ref ob1)])) rfl rfl (hb hby at_76)
  have V0_3 : Arv Z h3 ob1 k1 .byte (2 : Int32) [(.int (b0.toInt8.toInt32)), (.int (0 : Int32))] (.int (0 : Int32)) := Arv.set Ar2 q2 S2 N_2 H2 G2 (fits_nar_byte _) W3 0 rfl (Nat.le_of_ble_eq_true rfl)
  have V_3 : Arv Z h3 ob1 k1 .byte (2 : Int32) [(.int b0), (.int (0 : Int32))] (.int (0 : Int32)) := by rw [hb0] at V0_3; exact V0_3
  have Zs3 : n0 ≤ h3.size := Nat.le_trans Zs1 (Keep.of_wr W3).1
  have N3 := Fr.snoc X3 N0 g_ob1
  refine Goes.step ?_ st3
  show Goes p e below _ (sF T3 m 77 #[iv p1, iv p2, iv p3, iv p4, iv p5, iv p6, iv (2 : Int32), iv b0, iv b1, iv b2, iv b3, iv b4, .unset, .unset, .unset, .unset, .unset, .unset, .unset, .unset, .unset, .unset] [(.ref ob1)])
  refine Goes.step ?_ (fun _ k => XS.dup X3.here hx rfl (hb hby at_77) rfl rfl k)
  show Goes p e below _ (sF T3 m 78 #[iv p1, iv p2, iv p3, iv p4, iv p5, iv p6, iv (2 : Int32), iv b0, iv b1, iv b2, iv b3, iv b4, .unset, .unset, .unset, .unset, .unset, .unset, .unset, .unset, .unset, .unset] [(.ref ob1), (.ref ob1)])
  refine Goes.step ?_ (fun _ k => XS.iconst X3.here hx rfl (hb hby at_78) k)
  show Goes p e below _ (sF T3 m 79 #[iv p1, iv p2, iv p3, iv p4, iv p5, iv p6, iv (2 : Int32), iv b0, iv b1, iv b2, iv b3, iv b4, .unset, .unset, .unset, .unset, .unset, .unset, .unset, .unset, .unset, .unset] [(.int (1 : Int32)), (.ref ob1), (.ref ob1)])
  refine Goes.step ?_ (fun _ k => XS.iload X3.here hx rfl (hb hby at_79) rfl  k)
  show Goes p e below _ (sF T3 m 81 #[iv p1, iv p2, iv p3, iv p4, iv p5, iv p6, iv (2 : Int32), iv b0, iv b1, iv b2, iv b3, iv b4, .unset, .unset, .unset, .unset, .unset, .unset, .unset, .unset, .unset, .unset] [(.int b1), (.int (1 : Int32)), (.ref ob1), (.ref ob1)])
  obtain ⟨cl4, Ar4, q4, S4, N_4, H4, G4⟩ := id V_3
  have hin5 : ¬ ((1 : Int32) < 0 ∨ cl4.slots.size ≤ ((1 : Int32)).toNatClampNeg) := inb_of S4 ⟨by decide, by decide⟩
  obtain ⟨T5, h5, X5, e5, W5, st5⟩ := stB X3 hx hZ e3 Ar4 (j := (1 : Int32)) hin5 (g := (mkF m 81 #[iv p1, iv p2, iv p3, iv p4, iv p5, iv p6, iv (2 : Int32), iv b0, iv b1, iv b2, iv b3, iv b4, .unset, .unset, .unset, .unset, .unset, .unset, .unset, .unset, .unset, .unset] [(.int b1), (.int (1 : Int32)), (.ref ob1), (.ref ob1)])) rfl rfl (hb hby at_81)
  have V0_5 : Arv Z h5 ob1 k1 .byte (2 : Int32) [(.int b0), (.int (b1.toInt8.toInt32))] (.int (0 : Int32)) := Arv.set Ar4 q4 S4 N_4 H4 G4 (fits_nar_byte _) W5 1 rfl (Nat.le_of_ble_eq_true rfl)
  have V_5 : Arv Z h5 ob1 k1 .byte (2 : Int32) [(.int b0), (.int b1)] (.int (0 : Int32)) := by rw [hb1] at V0_5; exact V0_5
  have Zs5 : n0 ≤ h5.size := Nat.le_trans Zs3 (Keep.of_wr W5).1
  have N5 := Fr.snoc X5 N3 g_ob1
  refine Goes.step ?_ st5
  show Goes p e below _ (sF T5 m 82 #[iv p1, iv p2, iv p3, iv p4, iv p5, iv p6, iv (2 : Int32), iv b0, iv b1, iv b2, iv b3, iv b4, .unset, .unset, .unset, .unset, .unset, .unset, .unset, .unset, .unset, .unset] [(.ref ob1)])
  refine Goes.step ?_ (fun _ k => XS.astore X5.here hx rfl (hb hby at_82) rfl rfl (l' := #[iv p1, iv p2, iv p3, iv p4, iv p5, iv p6, iv (2 : Int32), iv b0, iv b1, iv b2, iv b3, iv b4, rv ob1, .unset, .unset, .unset, .unset, .unset, .unset, .unset, .unset, .unset]) rfl k)
  show Goes p e below _ (sF T5 m 84 #[iv p1, iv p2, iv p3, iv p4, iv p5, iv p6, iv (2 : Int32), iv b0, iv b1, iv b2, iv b3, iv b4, rv ob1, .unset, .unset, .unset, .unset, .unset, .unset, .unset, .unset, .unset] [])
  refine Goes.step ?_ (fun _ k => XS.goto X5.here hx rfl (pc0 := 84) (pc' := 180) rfl (hb hby at_84) (by decide) (by decide) k)
  show Goes p e below _ (sF T5 m 180 #[iv p1, iv p2, iv p3, iv p4, iv p5, iv p6, iv (2 : Int32), iv b0, iv b1, iv b2, iv b3, iv b4, rv ob1, .unset, .unset, .unset, .unset, .unset, .unset, .unset, .unset, .unset] [])
  obtain ⟨T6, h6, X6, e6, E6, A6, D6, -, st6⟩ := newO X5 hx hZ hown (hw _ (List.mem_of_getElem? (i := 2) rfl)) (hw _ (List.mem_of_getElem? (i := 3) rfl)) (hw _ (List.mem_of_getElem? (i := 4) rfl)) e5 (g := (mkF m 180 #[iv p1, iv p2, iv p3, iv p4, iv p5, iv p6, iv (2 : Int32), iv b0, iv b1, iv b2, iv b3, iv b4, rv ob1, .unset, .unset, .unset, .unset, .unset, .unset, .unset, .unset, .unset] [])) rfl (hb hby at_180) (by decide) (by decide)
  obtain ⟨ob6, g6⟩ : ∃ z, z = h5.size := ⟨_, rfl⟩
  rw [← g6] at A6 D6 st6
  have g_ob6 : n0 ≤ ob6 := Nat.le_trans Zs5 (Nat.le_of_eq g6.symm)
  have ne_ob1_ob6 : ob1 ≠ ob6 := Nat.ne_of_lt (Nat.lt_of_lt_of_le V_5.lt (Nat.le_of_eq g6.symm))
  have Zs6 : n0 ≤ h6.size := Nat.le_trans Zs5 E6.1
  refine Goes.step ?_ st6
  have F_count_ob6 : Fld Z h6 ob6 "com/example/borderline/borderline/Comparisons" "count" "J" (.long (0 : Int64)) := D6 (Or.inl (hw _ (List.mem_of_getElem? (i := 22) rfl))) (ty := .long) (by decide)
  show Goes p e below _ (sF T6 m 183 #[iv p1, iv p2, iv p3, iv p4, iv p5, iv p6, iv (2 : Int32), iv b0, iv b1, iv b2, iv b3, iv b4, rv ob1, .unset, .unset, .unset, .unset, .unset, .unset, .unset, .unset, .unset] [(.ref ob6)])
  refine Goes.step ?_ (fun _ k => XS.dup X6.here hx rfl (hb hby at_183) rfl rfl k)
  show Goes p e below _ (sF T6 m 184 #[iv p1, iv p2, iv p3, iv p4, iv p5, iv p6, iv (2 : Int32), iv b0, iv b1, iv b2, iv b3, iv b4, rv ob1, .unset, .unset, .unset, .unset, .unset, .unset, .unset, .unset, .unset] [(.ref ob6), (.ref ob6)])
  obtain ⟨_, _, ⟨T7, L7, k7, n7⟩, -, X7, ⟨Lc7, hQ7, l7, y7, z7⟩, st7⟩ := X6.specialBack hx (y := (⟨"com/example/borderline/borderline/Comparisons", "<init>", "()V"⟩ : MethodName)) rfl hown (mvT hZ (hw _ (List.mem_of_getElem? (i := 5) rfl))) (mvT hZ (hw _ (List.mem_of_getElem? (i := 6) rfl))) (mvT hZ (hw _ (List.mem_of_getElem? (i := 7) rfl))) (by decide) (backOf (W := 1) (rmNew l Z a0 hw [] ob6  h6 n0 Zs6 ) hZ (hw _ (List.mem_of_getElem? (i := 7) rfl)) (hw _ (List.mem_of_getElem? (i := 4) rfl)) (by decide) (by decide)) (g := (mkF m 184 #[iv p1, iv p2, iv p3, iv p4, iv p5, iv p6, iv (2 : Int32), iv b0, iv b1, iv b2, iv b3, iv b4, rv ob1, .unset, .unset, .unset, .unset, .unset, .unset, .unset, .unset, .unset] [(.ref ob6), (.ref ob6)])) rfl (by rw [hml]; rfl) (Steps.refl _) (a := ob6) (argsL := []) (rest := [(.ref ob6)]) (lenOf pd__28_29V rfl) rfl (by show 2 * 0 + _ ≤ _; exact Nat.le_of_eq rfl) (hb hby at_184) (fun _ _ => ⟨rfl, e6, (by decide : 0 + 1 + 1 + 0 ≤ _), (by decide : 0 + 2 + 1 + 0 ≤ _)⟩)
  dsimp only [Pt.U, Pt.locs, Pt.cells, Pt.slots] at X7 l7 y7 z7 st7 hQ7
  subst l7 y7 z7
  obtain ⟨rfl, N7q, e7⟩ := hQ7
  have N7 := Fr.app N5 N7q
  refine Goes.step ?_ (fun _ k => st7.trans k)
  show Goes p e below _ (sF T7 m 187 #[iv p1, iv p2, iv p3, iv p4, iv p5, iv p6, iv (2 : Int32), iv b0, iv b1, iv b2, iv b3, iv b4, rv ob1, .unset, .unset, .unset, .unset, .unset, .unset, .unset, .unset, .unset] [(.ref ob6)])
  refine Goes.step ?_ (fun _ k => XS.astore X7.here hx rfl (hb hby at_187) rfl rfl (l' := #[iv p1, iv p2, iv p3, iv p4, iv p5, iv p6, iv (2 : Int32), iv b0, iv b1, iv b2, iv b3, iv b4, rv ob1, rv ob6, .unset, .unset, .unset, .unset, .unset, .unset, .unset, .unset]) rfl k)
  show Goes p e below _ (sF T7 m 189 #[iv p1, iv p2, iv p3, iv p4, iv p5, iv p6, iv (2 : Int32), iv b0, iv b1, iv b2, iv b3, iv b4, rv ob1, rv ob6, .unset, .unset, .unset, .unset, .unset, .unset, .unset, .unset] [])
  refine Goes.step ?_ (fun _ k => XS.aload X7.here hx rfl (hb hby at_189) rfl rfl k)
  show Goes p e below _ (sF T7 m 191 #[iv p1, iv p2, iv p3, iv p4, iv p5, iv p6, iv (2 : Int32), iv b0, iv b1, iv b2, iv b3, iv b4, rv ob1, rv ob6, .unset, .unset, .unset, .unset, .unset, .unset, .unset, .unset] [(.ref ob1)])
  refine Goes.step ?_ (fun _ k => XS.aload X7.here hx rfl (hb hby at_191) rfl rfl k)
  show Goes p e below _ (sF T7 m 193 #[iv p1, iv p2, iv p3, iv p4, iv p5, iv p6, iv (2 : Int32), iv b0, iv b1, iv b2, iv b3, iv b4, rv ob1, rv ob6, .unset, .unset, .unset, .unset, .unset, .unset, .unset, .unset] [(.ref ob6), (.ref ob1)])
  have V_ob1_8 := (V_5.ext E6)
  obtain ⟨_, _, ⟨T9, L9, k9, n9⟩, -, X9, ⟨Lc9, hQ9, l9, y9, z9⟩, st9⟩ := Jvm.LawKit.callS X7 hx (y := (⟨"com/example/borderline/borderline/BorderTable", "shifted", "([BLcom/example/borderline/borderline/Comparisons;)[I"⟩ : MethodName)) hown (mvT hZ (hw _ (List.mem_of_getElem? (i := 11) rfl))) (mvT hZ (hw _ (List.mem_of_getElem? (i := 12) rfl))) (mvT hZ (hw _ (List.mem_of_getElem? (i := 13) rfl))) (mvT hZ (hw _ (List.mem_of_getElem? (i := 14) rfl))) (by decide) (own_backH (W := 0) (rmSh2 l Z a0 hw [] ob1 ob6 cK one k1 b0 b1 h6 n0 Zs6 hSame hLam V_ob1_8 F_count_ob6 A6 g_ob6) hZH (hw _ (List.mem_of_getElem? (i := 14) rfl)) (hw _ (List.mem_of_getElem? (i := 13) rfl)) (by decide) (by decide)) (g := (mkF m 193 #[iv p1, iv p2, iv p3, iv p4, iv p5, iv p6, iv (2 : Int32), iv b0, iv b1, iv b2, iv b3, iv b4, rv ob1, rv ob6, .unset, .unset, .unset, .unset, .unset, .unset, .unset, .unset] [(.ref ob6), (.ref ob1)])) rfl (by rw [hml]; rfl) (argsL := [(.ref ob1), (.ref ob6)]) (rest := []) (lenOf pd__28_5bBLcom_2fexample_2fborderline_2fborderline_2fComparisons_3b_29_5bI rfl) rfl (by show 2 * 0 + _ ≤ _; exact Nat.le_of_eq rfl) (hb hby at_193) (fun _ _ => ⟨rfl, e7, (by decide : 0 + 1 + 1 + 2 ≤ _), (by decide : 0 + 2 + 1 + 3 ≤ _)⟩)
  dsimp only [Pt.U, Pt.locs, Pt.cells, Pt.slots] at X9 l9 y9 z9 st9 hQ9
  subst l9 y9 z9
  obtain ⟨u9, ku9, q9, rfl, N9q, K9, gu9, Vu9, G9, l19, l29⟩ := hQ9
  have N9 := Fr.app N7 N9q
  refine Goes.step ?_ st9
  have g_u9 : n0 ≤ u9 := Nat.le_trans Zs6 gu9
  have ne_ob1_u9 : ob1 ≠ u9 := Nat.ne_of_lt (Nat.lt_of_lt_of_le V_ob1_8.lt gu9)
  have ne_ob6_u9 : ob6 ≠ u9 := Nat.ne_of_lt (Nat.lt_of_lt_of_le A6.lt gu9)
  have Zs9 : n0 ≤ T9.heap.size := Nat.le_trans Zs6 K9.1
  show Goes p e below _ (sF T9 m 196 #[iv p1, iv p2, iv p3, iv p4, iv p5, iv p6, iv (2 : Int32), iv b0, iv b1, iv b2, iv b3, iv b4, rv ob1, rv ob6, .unset, .unset, .unset, .unset, .unset, .unset, .unset, .unset] [(.ref u9)])
  refine Goes.step ?_ (fun _ k => XS.astore X9.here hx rfl (hb hby at_196) rfl rfl (l' := #[iv p1, iv p2, iv p3, iv p4, iv p5, iv p6, iv (2 : Int32), iv b0, iv b1, iv b2, iv b3, iv b4, rv ob1, rv ob6, rv u9, .unset, .unset, .unset, .unset, .unset, .unset, .unset]) rfl k)
  show Goes p e below _ (sF T9 m 198 #[iv p1, iv p2, iv p3, iv p4, iv p5, iv p6, iv (2 : Int32), iv b0, iv b1, iv b2, iv b3, iv b4, rv ob1, rv ob6, rv u9, .unset, .unset, .unset, .unset, .unset, .unset, .unset] [])
  refine Goes.step ?_ (fun _ k => XS.aload X9.here hx rfl (hb hby at_198) rfl rfl k)
  show Goes p e below _ (sF T9 m 200 #[iv p1, iv p2, iv p3, iv p4, iv p5, iv p6, iv (2 : Int32), iv b0, iv b1, iv b2, iv b3, iv b4, rv ob1, rv ob6, rv u9, .unset, .unset, .unset, .unset, .unset, .unset, .unset] [(.ref u9)])
  obtain ⟨cl10, Ar10, q10, S10, N_10, H10, G10⟩ := id Vu9
  refine Goes.step ?_ (fun _ k => X9.arraylength hx Ar10.1 (State.isArrayOf_alike hZ.alike Ar10.2.1) (g := (mkF m 200 #[iv p1, iv p2, iv p3, iv p4, iv p5, iv p6, iv (2 : Int32), iv b0, iv b1, iv b2, iv b3, iv b4, rv ob1, rv ob6, rv u9, .unset, .unset, .unset, .unset, .unset, .unset, .unset] [(.ref u9)])) rfl rfl (hb hby at_200) _ k)
  rw [len_of S10 N_10]
  show Goes p e below _ (sF T9 m 201 #[iv p1, iv p2, iv p3, iv p4, iv p5, iv p6, iv (2 : Int32), iv b0, iv b1, iv b2, iv b3, iv b4, rv ob1, rv ob6, rv u9, .unset, .unset, .unset, .unset, .unset, .unset, .unset] [(.int (2 : Int32))])
  refine Goes.step ?_ (fun _ k => XS.iload X9.here hx rfl (hb hby at_201) rfl  k)
  show Goes p e below _ (sF T9 m 203 #[iv p1, iv p2, iv p3, iv p4, iv p5, iv p6, iv (2 : Int32), iv b0, iv b1, iv b2, iv b3, iv b4, rv ob1, rv ob6, rv u9, .unset, .unset, .unset, .unset, .unset, .unset, .unset] [(.int (2 : Int32)), (.int (2 : Int32))])
  refine Goes.step ?_ (fun _ k => XS.icmpYes X9.here hx rfl (pc0 := 203) (pc' := 208) rfl (hb hby at_203) rfl (teq (by decide : (2 : Int32) = (2 : Int32))).1 (by decide) (by decide) k)
  show Goes p e below _ (sF T9 m 208 #[iv p1, iv p2, iv p3, iv p4, iv p5, iv p6, iv (2 : Int32), iv b0, iv b1, iv b2, iv b3, iv b4, rv ob1, rv ob6, rv u9, .unset, .unset, .unset, .unset, .unset, .unset, .unset] [])
  have V_ob1_11 := (V_ob1_8.keep K9 (ninS ne_ob1_ob6 nin0))
  have E_ob6_12 := (A6.keep K9)
  exact tail208 p1 p2 p3 p4 p5 p6 (2 : Int32) b0 b1 b2 b3 b4 ob1 ob6 u9 k1 ku9 _ _ q9 (X9.mono (by decide) (by decide)) hx hZ hw hby hlk hret hml hown rfl N9 Zs9 V_ob1_11 Vu9 G9 E_ob6_12 (fun _ => rfl) (fun _ => rfl) (fun h => absurd h (by decide)) (fun h => absurd h (by decide)) (fun h => absurd h (by decide)) (fun _ => rfl) (fun _ => rfl) (fun h => absurd h (by decide)) (fun h => absurd h (by decide)) (fun h => absurd h (by decide)) (by rw [show maxV ((2 : Int32) - (2 : Int32)) (0 : Int32) = (0 : Int32) from by decide]; exact l19) (by rw [show maxV (((2 : Int32) * (2 : Int32)) - (4 : Int32)) (0 : Int32) = (0 : Int32) from by decide]; exact l29)
set_option maxRecDepth 65536 in
set_option maxHeartbeats 40000000 in
theorem tail31_3 {p : Program} {l : Launch} {e : Env} {s : State} {m : MethodId} {args : Array Value} {below : List Frame} {meth : Method} {c : Code} {T0 : State} {locs : List Loc} {Z : State} {a0 : Array Value} {h0 : Heap} {n0 : Nat} (p1 : Int32) (p2 : Int32) (p3 : Int32) (p4 : Int32) (p5 : Int32) (p6 : Int32) (b0 : Int32) (b1 : Int32) (b2 : Int32) (b3 : Int32) (b4 : Int32) (cK : ClassId) (one : Option Addr)
    (X0 : Stand p l e room_1 s m args below meth c T0 locs (0) (0)) (hx : p.tables.exec = Jvm.exec) (hZ : Z.Warmed39 s.vm) (hw : ∀ d ∈ tables_1, d.before a0 Z = true) (hby : c.code = code) (hlk : meth.locks = false) (hret : meth.sig.returnType = some .boolean) (hml : c.maxLocals = 22) (hown : s.vm.findClass "com/example/borderline/borderline/BorderTableShiftedPinLaw" = some m.cls) (e0 : T0.heap = h0) (N0 : Fr n0 locs) (Z0 : n0 ≤ h0.size) (hZH : Z.WarmedH s.vm) (hSame : Z.sameButNew Z [] 0 0) (hLam : Z.lambdaAt? symN 1 30 sgm = some (cK, one)) (hb0 : b0.toInt8.toInt32 = b0) (hb1 : b1.toInt8.toInt32 = b1) (hb2 : b2.toInt8.toInt32 = b2) (hb3 : b3.toInt8.toInt32 = b3) (hb4 : b4.toInt8.toInt32 = b4) :
    Goes p e below (fun o U' => ∃ v L, o = .returned v ∧ Q0 n0 v U'.heap L ∧ FrameEnd s o U' L room_1.cells room_1.slots) (T0.setTop (mkF m 31 #[iv p1, iv p2, iv p3, iv p4, iv p5, iv p6, iv (3 : Int32), iv b0, iv b1, iv b2, iv b3, iv b4, .unset, .unset, .unset, .unset, .unset, .unset, .unset, .unset, .unset, .unset] [])) := by
  show Goes p e below _ (sF T0 m 31 #[iv p1, iv p2, iv p3, iv p4, iv p5, iv p6, iv (3 : Int32), iv b0, iv b1, iv b2, iv b3, iv b4, .unset, .unset, .unset, .unset, .unset, .unset, .unset, .unset, .unset, .unset] [])
  refine Goes.step ?_ (fun _ k => XS.iload X0.here hx rfl (hb hby at_31) rfl  k)
  show Goes p e below _ (sF T0 m 33 #[iv p1, iv p2, iv p3, iv p4, iv p5, iv p6, iv (3 : Int32), iv b0, iv b1, iv b2, iv b3, iv b4, .unset, .unset, .unset, .unset, .unset, .unset, .unset, .unset, .unset, .unset] [(.int (3 : Int32))])
  refine Goes.step ?_ (fun _ k => XS.ifYes X0.here hx rfl (pc0 := 33) (pc' := 44) rfl (hb hby at_33) rfl ((if0 _ _).trans (feq (by decide : ¬ ((3 : Int32) = (0 : Int32)))).2) (by decide) (by decide) k)
  show Goes p e below _ (sF T0 m 44 #[iv p1, iv p2, iv p3, iv p4, iv p5, iv p6, iv (3 : Int32), iv b0, iv b1, iv b2, iv b3, iv b4, .unset, .unset, .unset, .unset, .unset, .unset, .unset, .unset, .unset, .unset] [])
  refine Goes.step ?_ (fun _ k => XS.iload X0.here hx rfl (hb hby at_44) rfl  k)
  show Goes p e below _ (sF T0 m 46 #[iv p1, iv p2, iv p3, iv p4, iv p5, iv p6, iv (3 : Int32), iv b0, iv b1, iv b2, iv b3, iv b4, .unset, .unset, .unset, .unset, .unset, .unset, .unset, .unset, .unset, .unset] [(.int (3 : Int32))])
  refine Goes.step ?_ (fun _ k => XS.iconst X0.here hx rfl (hb hby at_46) k)
  show Goes p e below _ (sF T0 m 47 #[iv p1, iv p2, iv p3, iv p4, iv p5, iv p6, iv (3 : Int32), iv b0, iv b1, iv b2, iv b3, iv b4, .unset, .unset, .unset, .unset, .unset, .unset, .unset, .unset, .unset, .unset] [(.int (1 : Int32)), (.int (3 : Int32))])
  refine Goes.step ?_ (fun _ k => XS.icmpYes X0.here hx rfl (pc0 := 47) (pc' := 63) rfl (hb hby at_47) rfl (feq (by decide : ¬ ((3 : Int32) = (1 : Int32)))).2 (by decide) (by decide) k)
  show Goes p e below _ (sF T0 m 63 #[iv p1, iv p2, iv p3, iv p4, iv p5, iv p6, iv (3 : Int32), iv b0, iv b1, iv b2, iv b3, iv b4, .unset, .unset, .unset, .unset, .unset, .unset, .unset, .unset, .unset, .unset] [])
  refine Goes.step ?_ (fun _ k => XS.iload X0.here hx rfl (hb hby at_63) rfl  k)
  show Goes p e below _ (sF T0 m 65 #[iv p1, iv p2, iv p3, iv p4, iv p5, iv p6, iv (3 : Int32), iv b0, iv b1, iv b2, iv b3, iv b4, .unset, .unset, .unset, .unset, .unset, .unset, .unset, .unset, .unset, .unset] [(.int (3 : Int32))])
  refine Goes.step ?_ (fun _ k => XS.iconst X0.here hx rfl (hb hby at_65) k)
  show Goes p e below _ (sF T0 m 66 #[iv p1, iv p2, iv p3, iv p4, iv p5, iv p6, iv (3 : Int32), iv b0, iv b1, iv b2, iv b3, iv b4, .unset, .unset, .unset, .unset, .unset, .unset, .unset, .unset, .unset, .unset] [(.int (2 : Int32)), (.int (3 : Int32))])
  refine Goes.step ?_ (fun _ k => XS.icmpYes X0.here hx rfl (pc0 := 66) (pc' := 87) rfl (hb hby at_66) rfl (feq (by decide : ¬ ((3 : Int32) = (2 : Int32)))).2 (by decide) (by decide) k)
  show Goes p e below _ (sF T0 m 87 #[iv p1, iv p2, iv p3, iv p4, iv p5, iv p6, iv (3 : Int32), iv b0, iv b1, iv b2, iv b3, iv b4, .unset, .unset, .unset, .unset, .unset, .unset, .unset, .unset, .unset, .unset] [])
  refine Goes.step ?_ (fun _ k => XS.iload X0.here hx rfl (hb hby at_87) rfl  k)
  show Goes p e below _ (sF T0 m 89 #[iv p1, iv p2, iv p3, iv p4, iv p5, iv p6, iv (3 : Int32), iv b0, iv b1, iv b2, iv b3, iv b4, .unset, .unset, .unset, .unset, .unset, .unset, .unset, .unset, .unset, .unset] [(.int (3 : Int32))])
  refine Goes.step ?_ (fun _ k => XS.iconst X0.here hx rfl (hb hby at_89) k)
  show Goes p e below _ (sF T0 m 90 #[iv p1, iv p2, iv p3, iv p4, iv p5, iv p6, iv (3 : Int32), iv b0, iv b1, iv b2, iv b3, iv b4, .unset, .unset, .unset, .unset, .unset, .unset, .unset, .unset, .unset, .unset] [(.int (3 : Int32)), (.int (3 : Int32))])
  refine Goes.step ?_ (fun _ k => XS.icmpNo X0.here hx rfl (hb hby at_90) rfl (teq (by decide : (3 : Int32) = (3 : Int32))).2 k)
  show Goes p e below _ (sF T0 m 93 #[iv p1, iv p2, iv p3, iv p4, iv p5, iv p6, iv (3 : Int32), iv b0, iv b1, iv b2, iv b3, iv b4, .unset, .unset, .unset, .unset, .unset, .unset, .unset, .unset, .unset, .unset] [])
  refine Goes.step ?_ (fun _ k => XS.iconst X0.here hx rfl (hb hby at_93) k)
  show Goes p e below _ (sF T0 m 94 #[iv p1, iv p2, iv p3, iv p4, iv p5, iv p6, iv (3 : Int32), iv b0, iv b1, iv b2, iv b3, iv b4, .unset, .unset, .unset, .unset, .unset, .unset, .unset, .unset, .unset, .unset] [(.int (3 : Int32))])
  obtain ⟨T1, h1, k1, X1, e1, E1, A1, st1⟩ := newP X0 hx hZ (hw _ (List.mem_of_getElem? (i := 1) rfl)) e0 (g := (mkF m 94 #[iv p1, iv p2, iv p3, iv p4, iv p5, iv p6, iv (3 : Int32), iv b0, iv b1, iv b2, iv b3, iv b4, .unset, .unset, .unset, .unset, .unset, .unset, .unset, .unset, .unset, .unset] [(.int (3 : Int32))])) rfl (hb hby at_94) rfl (by decide) (cap := 3) (by decide) (by decide) (by decide) (by decide)
  obtain ⟨ob1, g1⟩ : ∃ z, z = h0.size := ⟨_, rfl⟩
  rw [← g1] at A1 st1
  have g_ob1 : n0 ≤ ob1 := Nat.le_trans Z0 (Nat.le_of_eq g1.symm)
  have Zs1 : n0 ≤ h1.size := Nat.le_trans Z0 E1.1
  refine Goes.step ?_ st1
  have V_ob1 : Arv Z h1 ob1 k1 .byte (3 : Int32) [(.int (0 : Int32)), (.int (0 : Int32)), (.int (0 : Int32))] (.int (0 : Int32)) := (Arv.new A1 (by decide)).pad (pad_rep [] (.int (0 : Int32)) 3)
  show Goes p e below _ (sF T1 m 96 #[iv p1, iv p2, iv p3, iv p4, iv p5, iv p6, iv (3 : Int32), iv b0, iv b1, iv b2, iv b3, iv b4, .unset, .unset, .unset, .unset, .unset, .unset, .unset, .unset, .unset, .unset] [(.ref ob1)])
  refine Goes.step ?_ (fun _ k => XS.dup X1.here hx rfl (hb hby at_96) rfl rfl k)
  show Goes p e below _ (sF T1 m 97 #[iv p1, iv p2, iv p3, iv p4, iv p5, iv p6, iv (3 : Int32), iv b0, iv b1, iv b2, iv b3, iv b4, .unset, .unset, .unset, .unset, .unset, .unset, .unset, .unset, .unset, .unset] [(.ref ob1), (.ref ob1)])
  refine Goes.step ?_ (fun _ k => XS.iconst X1.here hx rfl (hb hby at_97) k)
  show Goes p e below _ (sF T1 m 98 #[iv p1, iv p2, iv p3, iv p4, iv p5, iv p6, iv (3 : Int32), iv b0, iv b1, iv b2, iv b3, iv b4, .unset, .unset, .unset, .unset, .unset, .unset, .unset, .unset, .unset, .unset] [(.int (0 : Int32)), (.ref ob1), (.ref ob1)])
  refine Goes.step ?_ (fun _ k => XS.iload X1.here hx rfl (hb hby at_98) rfl  k)
  show Goes p e below _ (sF T1 m 100 #[iv p1, iv p2, iv p3, iv p4, iv p5, iv p6, iv (3 : Int32), iv b0, iv b1, iv b2, iv b3, iv b4, .unset, .unset, .unset, .unset, .unset, .unset, .unset, .unset, .unset, .unset] [(.int b0), (.int (0 : Int32)), (.ref ob1), (.ref ob1)])
  obtain ⟨cl2, Ar2, q2, S2, N_2, H2, G2⟩ := id V_ob1
  have hin3 : ¬ ((0 : Int32) < 0 ∨ cl2.slots.size ≤ ((0 : Int32)).toNatClampNeg) := inb_of S2 ⟨by decide, by decide⟩
  obtain ⟨T3, h3, X3, e3, W3, st3⟩ := stB X1 hx hZ e1 Ar2 (j := (0 : Int32)) hin3 (g := (mkF m 100 #[iv p1, iv p2, iv p3, iv p4, iv p5, iv p6, iv (3 : Int32), iv b0, iv b1, iv b2, iv b3, iv b4, .unset, .unset, .unset, .unset, .unset, .unset, .unset, .unset, .unset, .unset] [(.int b0), (.int (0 : Int32)), (.ref ob1), (.ref ob1)])) rfl rfl (hb hby at_100)
  have V0_3 : Arv Z h3 ob1 k1 .byte (3 : Int32) [(.int (b0.toInt8.toInt32)), (.int (0 : Int32)), (.int (0 : Int32))] (.int (0 : Int32)) := Arv.set Ar2 q2 S2 N_2 H2 G2 (fits_nar_byte _) W3 0 rfl (Nat.le_of_ble_eq_true rfl)
  have V_3 : Arv Z h3 ob1 k1 .byte (3 : Int32) [(.int b0), (.int (0 : Int32)), (.int (0 : Int32))] (.int (0 : Int32)) := by rw [hb0] at V0_3; exact V0_3
  have Zs3 : n0 ≤ h3.size := Nat.le_trans Zs1 (Keep.of_wr W3).1
  have N3 := Fr.snoc X3 N0 g_ob1
  refine Goes.step ?_ st3
  show Goes p e below _ (sF T3 m 101 #[iv p1, iv p2, iv p3, iv p4, iv p5, iv p6, iv (3 : Int32), iv b0, iv b1, iv b2, iv b3, iv b4, .unset, .unset, .unset, .unset, .unset, .unset, .unset, .unset, .unset, .unset] [(.ref ob1)])
  refine Goes.step ?_ (fun _ k => XS.dup X3.here hx rfl (hb hby at_101) rfl rfl k)
  show Goes p e below _ (sF T3 m 102 #[iv p1, iv p2, iv p3, iv p4, iv p5, iv p6, iv (3 : Int32), iv b0, iv b1, iv b2, iv b3, iv b4, .unset, .unset, .unset, .unset, .unset, .unset, .unset, .unset, .unset, .unset] [(.ref ob1), (.ref ob1)])
  refine Goes.step ?_ (fun _ k => XS.iconst X3.here hx rfl (hb hby at_102) k)
  show Goes p e below _ (sF T3 m 103 #[iv p1, iv p2, iv p3, iv p4, iv p5, iv p6, iv (3 : Int32), iv b0, iv b1, iv b2, iv b3, iv b4, .unset, .unset, .unset, .unset, .unset, .unset, .unset, .unset, .unset, .unset] [(.int (1 : Int32)), (.ref ob1), (.ref ob1)])
  refine Goes.step ?_ (fun _ k => XS.iload X3.here hx rfl (hb hby at_103) rfl  k)
  show Goes p e below _ (sF T3 m 105 #[iv p1, iv p2, iv p3, iv p4, iv p5, iv p6, iv (3 : Int32), iv b0, iv b1, iv b2, iv b3, iv b4, .unset, .unset, .unset, .unset, .unset, .unset, .unset, .unset, .unset, .unset] [(.int b1), (.int (1 : Int32)), (.ref ob1), (.ref ob1)])
  obtain ⟨cl4, Ar4, q4, S4, N_4, H4, G4⟩ := id V_3
  have hin5 : ¬ ((1 : Int32) < 0 ∨ cl4.slots.size ≤ ((1 : Int32)).toNatClampNeg) := inb_of S4 ⟨by decide, by decide⟩
  obtain ⟨T5, h5, X5, e5, W5, st5⟩ := stB X3 hx hZ e3 Ar4 (j := (1 : Int32)) hin5 (g := (mkF m 105 #[iv p1, iv p2, iv p3, iv p4, iv p5, iv p6, iv (3 : Int32), iv b0, iv b1, iv b2, iv b3, iv b4, .unset, .unset, .unset, .unset, .unset, .unset, .unset, .unset, .unset, .unset] [(.int b1), (.int (1 : Int32)), (.ref ob1), (.ref ob1)])) rfl rfl (hb hby at_105)
  have V0_5 : Arv Z h5 ob1 k1 .byte (3 : Int32) [(.int b0), (.int (b1.toInt8.toInt32)), (.int (0 : Int32))] (.int (0 : Int32)) := Arv.set Ar4 q4 S4 N_4 H4 G4 (fits_nar_byte _) W5 1 rfl (Nat.le_of_ble_eq_true rfl)
  have V_5 : Arv Z h5 ob1 k1 .byte (3 : Int32) [(.int b0), (.int b1), (.int (0 : Int32))] (.int (0 : Int32)) := by rw [hb1] at V0_5; exact V0_5
  have Zs5 : n0 ≤ h5.size := Nat.le_trans Zs3 (Keep.of_wr W5).1
  have N5 := Fr.snoc X5 N3 g_ob1
  refine Goes.step ?_ st5
  show Goes p e below _ (sF T5 m 106 #[iv p1, iv p2, iv p3, iv p4, iv p5, iv p6, iv (3 : Int32), iv b0, iv b1, iv b2, iv b3, iv b4, .unset, .unset, .unset, .unset, .unset, .unset, .unset, .unset, .unset, .unset] [(.ref ob1)])
  refine Goes.step ?_ (fun _ k => XS.dup X5.here hx rfl (hb hby at_106) rfl rfl k)
  show Goes p e below _ (sF T5 m 107 #[iv p1, iv p2, iv p3, iv p4, iv p5, iv p6, iv (3 : Int32), iv b0, iv b1, iv b2, iv b3, iv b4, .unset, .unset, .unset, .unset, .unset, .unset, .unset, .unset, .unset, .unset] [(.ref ob1), (.ref ob1)])
  refine Goes.step ?_ (fun _ k => XS.iconst X5.here hx rfl (hb hby at_107) k)
  show Goes p e below _ (sF T5 m 108 #[iv p1, iv p2, iv p3, iv p4, iv p5, iv p6, iv (3 : Int32), iv b0, iv b1, iv b2, iv b3, iv b4, .unset, .unset, .unset, .unset, .unset, .unset, .unset, .unset, .unset, .unset] [(.int (2 : Int32)), (.ref ob1), (.ref ob1)])
  refine Goes.step ?_ (fun _ k => XS.iload X5.here hx rfl (hb hby at_108) rfl  k)
  show Goes p e below _ (sF T5 m 110 #[iv p1, iv p2, iv p3, iv p4, iv p5, iv p6, iv (3 : Int32), iv b0, iv b1, iv b2, iv b3, iv b4, .unset, .unset, .unset, .unset, .unset, .unset, .unset, .unset, .unset, .unset] [(.int b2), (.int (2 : Int32)), (.ref ob1), (.ref ob1)])
  obtain ⟨cl6, Ar6, q6, S6, N_6, H6, G6⟩ := id V_5
  have hin7 : ¬ ((2 : Int32) < 0 ∨ cl6.slots.size ≤ ((2 : Int32)).toNatClampNeg) := inb_of S6 ⟨by decide, by decide⟩
  obtain ⟨T7, h7, X7, e7, W7, st7⟩ := stB X5 hx hZ e5 Ar6 (j := (2 : Int32)) hin7 (g := (mkF m 110 #[iv p1, iv p2, iv p3, iv p4, iv p5, iv p6, iv (3 : Int32), iv b0, iv b1, iv b2, iv b3, iv b4, .unset, .unset, .unset, .unset, .unset, .unset, .unset, .unset, .unset, .unset] [(.int b2), (.int (2 : Int32)), (.ref ob1), (.ref ob1)])) rfl rfl (hb hby at_110)
  have V0_7 : Arv Z h7 ob1 k1 .byte (3 : Int32) [(.int b0), (.int b1), (.int (b2.toInt8.toInt32))] (.int (0 : Int32)) := Arv.set Ar6 q6 S6 N_6 H6 G6 (fits_nar_byte _) W7 2 rfl (Nat.le_of_ble_eq_true rfl)
  have V_7 : Arv Z h7 ob1 k1 .byte (3 : Int32) [(.int b0), (.int b1), (.int b2)] (.int (0 : Int32)) := by rw [hb2] at V0_7; exact V0_7
  have Zs7 : n0 ≤ h7.size := Nat.le_trans Zs5 (Keep.of_wr W7).1
  have N7 := Fr.snoc X7 N5 g_ob1
  refine Goes.step ?_ st7
  show Goes p e below _ (sF T7 m 111 #[iv p1, iv p2, iv p3, iv p4, iv p5, iv p6, iv (3 : Int32), iv b0, iv b1, iv b2, iv b3, iv b4, .unset, .unset, .unset, .unset, .unset, .unset, .unset, .unset, .unset, .unset] [(.ref ob1)])
  refine Goes.step ?_ (fun _ k => XS.astore X7.here hx rfl (hb hby at_111) rfl rfl (l' := #[iv p1, iv p2, iv p3, iv p4, iv p5, iv p6, iv (3 : Int32), iv b0, iv b1, iv b2, iv b3, iv b4, rv ob1, .unset, .unset, .unset, .unset, .unset, .unset, .unset, .unset, .unset]) rfl k)
  show Goes p e below _ (sF T7 m 113 #[iv p1, iv p2, iv p3, iv p4, iv p5, iv p6, iv (3 : Int32), iv b0, iv b1, iv b2, iv b3, iv b4, rv ob1, .unset, .unset, .unset, .unset, .unset, .unset, .unset, .unset, .unset] [])
  refine Goes.step ?_ (fun _ k => XS.goto X7.here hx rfl (pc0 := 113) (pc' := 180) rfl (hb hby at_113) (by decide) (by decide) k)
  show Goes p e below _ (sF T7 m 180 #[iv p1, iv p2, iv p3, iv p4, iv p5, iv p6, iv (3 : Int32), iv b0, iv b1, iv b2, iv b3, iv b4, rv ob1, .unset, .unset, .unset, .unset, .unset, .unset, .unset, .unset, .unset] [])
  obtain ⟨T8, h8, X8, e8, E8, A8, D8, -, st8⟩ := newO X7 hx hZ hown (hw _ (List.mem_of_getElem? (i := 2) rfl)) (hw _ (List.mem_of_getElem? (i := 3) rfl)) (hw _ (List.mem_of_getElem? (i := 4) rfl)) e7 (g := (mkF m 180 #[iv p1, iv p2, iv p3, iv p4, iv p5, iv p6, iv (3 : Int32), iv b0, iv b1, iv b2, iv b3, iv b4, rv ob1, .unset, .unset, .unset, .unset, .unset, .unset, .unset, .unset, .unset] [])) rfl (hb hby at_180) (by decide) (by decide)
  obtain ⟨ob8, g8⟩ : ∃ z, z = h7.size := ⟨_, rfl⟩
  rw [← g8] at A8 D8 st8
  have g_ob8 : n0 ≤ ob8 := Nat.le_trans Zs7 (Nat.le_of_eq g8.symm)
  have ne_ob1_ob8 : ob1 ≠ ob8 := Nat.ne_of_lt (Nat.lt_of_lt_of_le V_7.lt (Nat.le_of_eq g8.symm))
  have Zs8 : n0 ≤ h8.size := Nat.le_trans Zs7 E8.1
  refine Goes.step ?_ st8
  have F_count_ob8 : Fld Z h8 ob8 "com/example/borderline/borderline/Comparisons" "count" "J" (.long (0 : Int64)) := D8 (Or.inl (hw _ (List.mem_of_getElem? (i := 22) rfl))) (ty := .long) (by decide)
  show Goes p e below _ (sF T8 m 183 #[iv p1, iv p2, iv p3, iv p4, iv p5, iv p6, iv (3 : Int32), iv b0, iv b1, iv b2, iv b3, iv b4, rv ob1, .unset, .unset, .unset, .unset, .unset, .unset, .unset, .unset, .unset] [(.ref ob8)])
  refine Goes.step ?_ (fun _ k => XS.dup X8.here hx rfl (hb hby at_183) rfl rfl k)
  show Goes p e below _ (sF T8 m 184 #[iv p1, iv p2, iv p3, iv p4, iv p5, iv p6, iv (3 : Int32), iv b0, iv b1, iv b2, iv b3, iv b4, rv ob1, .unset, .unset, .unset, .unset, .unset, .unset, .unset, .unset, .unset] [(.ref ob8), (.ref ob8)])
  obtain ⟨_, _, ⟨T9, L9, k9, n9⟩, -, X9, ⟨Lc9, hQ9, l9, y9, z9⟩, st9⟩ := X8.specialBack hx (y := (⟨"com/example/borderline/borderline/Comparisons", "<init>", "()V"⟩ : MethodName)) rfl hown (mvT hZ (hw _ (List.mem_of_getElem? (i := 5) rfl))) (mvT hZ (hw _ (List.mem_of_getElem? (i := 6) rfl))) (mvT hZ (hw _ (List.mem_of_getElem? (i := 7) rfl))) (by decide) (backOf (W := 1) (rmNew l Z a0 hw [] ob8  h8 n0 Zs8 ) hZ (hw _ (List.mem_of_getElem? (i := 7) rfl)) (hw _ (List.mem_of_getElem? (i := 4) rfl)) (by decide) (by decide)) (g := (mkF m 184 #[iv p1, iv p2, iv p3, iv p4, iv p5, iv p6, iv (3 : Int32), iv b0, iv b1, iv b2, iv b3, iv b4, rv ob1, .unset, .unset, .unset, .unset, .unset, .unset, .unset, .unset, .unset] [(.ref ob8), (.ref ob8)])) rfl (by rw [hml]; rfl) (Steps.refl _) (a := ob8) (argsL := []) (rest := [(.ref ob8)]) (lenOf pd__28_29V rfl) rfl (by show 2 * 0 + _ ≤ _; exact Nat.le_of_eq rfl) (hb hby at_184) (fun _ _ => ⟨rfl, e8, (by decide : 0 + 1 + 1 + 0 ≤ _), (by decide : 0 + 3 + 1 + 0 ≤ _)⟩)
  dsimp only [Pt.U, Pt.locs, Pt.cells, Pt.slots] at X9 l9 y9 z9 st9 hQ9
  subst l9 y9 z9
  obtain ⟨rfl, N9q, e9⟩ := hQ9
  have N9 := Fr.app N7 N9q
  refine Goes.step ?_ (fun _ k => st9.trans k)
  show Goes p e below _ (sF T9 m 187 #[iv p1, iv p2, iv p3, iv p4, iv p5, iv p6, iv (3 : Int32), iv b0, iv b1, iv b2, iv b3, iv b4, rv ob1, .unset, .unset, .unset, .unset, .unset, .unset, .unset, .unset, .unset] [(.ref ob8)])
  refine Goes.step ?_ (fun _ k => XS.astore X9.here hx rfl (hb hby at_187) rfl rfl (l' := #[iv p1, iv p2, iv p3, iv p4, iv p5, iv p6, iv (3 : Int32), iv b0, iv b1, iv b2, iv b3, iv b4, rv ob1, rv ob8, .unset, .unset, .unset, .unset, .unset, .unset, .unset, .unset]) rfl k)
  show Goes p e below _ (sF T9 m 189 #[iv p1, iv p2, iv p3, iv p4, iv p5, iv p6, iv (3 : Int32), iv b0, iv b1, iv b2, iv b3, iv b4, rv ob1, rv ob8, .unset, .unset, .unset, .unset, .unset, .unset, .unset, .unset] [])
  refine Goes.step ?_ (fun _ k => XS.aload X9.here hx rfl (hb hby at_189) rfl rfl k)
  show Goes p e below _ (sF T9 m 191 #[iv p1, iv p2, iv p3, iv p4, iv p5, iv p6, iv (3 : Int32), iv b0, iv b1, iv b2, iv b3, iv b4, rv ob1, rv ob8, .unset, .unset, .unset, .unset, .unset, .unset, .unset, .unset] [(.ref ob1)])
  refine Goes.step ?_ (fun _ k => XS.aload X9.here hx rfl (hb hby at_191) rfl rfl k)
  show Goes p e below _ (sF T9 m 193 #[iv p1, iv p2, iv p3, iv p4, iv p5, iv p6, iv (3 : Int32), iv b0, iv b1, iv b2, iv b3, iv b4, rv ob1, rv ob8, .unset, .unset, .unset, .unset, .unset, .unset, .unset, .unset] [(.ref ob8), (.ref ob1)])
  have V_ob1_10 := (V_7.ext E8)
  obtain ⟨_, _, ⟨T11, L11, k11, n11⟩, -, X11, ⟨Lc11, hQ11, l11, y11, z11⟩, st11⟩ := Jvm.LawKit.callS X9 hx (y := (⟨"com/example/borderline/borderline/BorderTable", "shifted", "([BLcom/example/borderline/borderline/Comparisons;)[I"⟩ : MethodName)) hown (mvT hZ (hw _ (List.mem_of_getElem? (i := 11) rfl))) (mvT hZ (hw _ (List.mem_of_getElem? (i := 12) rfl))) (mvT hZ (hw _ (List.mem_of_getElem? (i := 13) rfl))) (mvT hZ (hw _ (List.mem_of_getElem? (i := 14) rfl))) (by decide) (own_backH (W := 0) (rmSh3 l Z a0 hw [] ob1 ob8 cK one k1 b0 b1 b2 h8 n0 Zs8 hSame hLam V_ob1_10 F_count_ob8 A8 g_ob8) hZH (hw _ (List.mem_of_getElem? (i := 14) rfl)) (hw _ (List.mem_of_getElem? (i := 13) rfl)) (by decide) (by decide)) (g := (mkF m 193 #[iv p1, iv p2, iv p3, iv p4, iv p5, iv p6, iv (3 : Int32), iv b0, iv b1, iv b2, iv b3, iv b4, rv ob1, rv ob8, .unset, .unset, .unset, .unset, .unset, .unset, .unset, .unset] [(.ref ob8), (.ref ob1)])) rfl (by rw [hml]; rfl) (argsL := [(.ref ob1), (.ref ob8)]) (rest := []) (lenOf pd__28_5bBLcom_2fexample_2fborderline_2fborderline_2fComparisons_3b_29_5bI rfl) rfl (by show 2 * 0 + _ ≤ _; exact Nat.le_of_eq rfl) (hb hby at_193) (fun _ _ => ⟨rfl, e9, (by decide : 0 + 1 + 1 + 2 ≤ _), (by decide : 0 + 3 + 1 + 4 ≤ _)⟩)
  dsimp only [Pt.U, Pt.locs, Pt.cells, Pt.slots] at X11 l11 y11 z11 st11 hQ11
  subst l11 y11 z11
  obtain ⟨u11, ku11, q11, rfl, N11q, K11, gu11, Vu11, G11, l111, l211⟩ := hQ11
  have N11 := Fr.app N9 N11q
  refine Goes.step ?_ st11
  have g_u11 : n0 ≤ u11 := Nat.le_trans Zs8 gu11
  have ne_ob1_u11 : ob1 ≠ u11 := Nat.ne_of_lt (Nat.lt_of_lt_of_le V_ob1_10.lt gu11)
  have ne_ob8_u11 : ob8 ≠ u11 := Nat.ne_of_lt (Nat.lt_of_lt_of_le A8.lt gu11)
  have Zs11 : n0 ≤ T11.heap.size := Nat.le_trans Zs8 K11.1
  show Goes p e below _ (sF T11 m 196 #[iv p1, iv p2, iv p3, iv p4, iv p5, iv p6, iv (3 : Int32), iv b0, iv b1, iv b2, iv b3, iv b4, rv ob1, rv ob8, .unset, .unset, .unset, .unset, .unset, .unset, .unset, .unset] [(.ref u11)])
  refine Goes.step ?_ (fun _ k => XS.astore X11.here hx rfl (hb hby at_196) rfl rfl (l' := #[iv p1, iv p2, iv p3, iv p4, iv p5, iv p6, iv (3 : Int32), iv b0, iv b1, iv b2, iv b3, iv b4, rv ob1, rv ob8, rv u11, .unset, .unset, .unset, .unset, .unset, .unset, .unset]) rfl k)
  show Goes p e below _ (sF T11 m 198 #[iv p1, iv p2, iv p3, iv p4, iv p5, iv p6, iv (3 : Int32), iv b0, iv b1, iv b2, iv b3, iv b4, rv ob1, rv ob8, rv u11, .unset, .unset, .unset, .unset, .unset, .unset, .unset] [])
  refine Goes.step ?_ (fun _ k => XS.aload X11.here hx rfl (hb hby at_198) rfl rfl k)
  show Goes p e below _ (sF T11 m 200 #[iv p1, iv p2, iv p3, iv p4, iv p5, iv p6, iv (3 : Int32), iv b0, iv b1, iv b2, iv b3, iv b4, rv ob1, rv ob8, rv u11, .unset, .unset, .unset, .unset, .unset, .unset, .unset] [(.ref u11)])
  obtain ⟨cl12, Ar12, q12, S12, N_12, H12, G12⟩ := id Vu11
  refine Goes.step ?_ (fun _ k => X11.arraylength hx Ar12.1 (State.isArrayOf_alike hZ.alike Ar12.2.1) (g := (mkF m 200 #[iv p1, iv p2, iv p3, iv p4, iv p5, iv p6, iv (3 : Int32), iv b0, iv b1, iv b2, iv b3, iv b4, rv ob1, rv ob8, rv u11, .unset, .unset, .unset, .unset, .unset, .unset, .unset] [(.ref u11)])) rfl rfl (hb hby at_200) _ k)
  rw [len_of S12 N_12]
  show Goes p e below _ (sF T11 m 201 #[iv p1, iv p2, iv p3, iv p4, iv p5, iv p6, iv (3 : Int32), iv b0, iv b1, iv b2, iv b3, iv b4, rv ob1, rv ob8, rv u11, .unset, .unset, .unset, .unset, .unset, .unset, .unset] [(.int (3 : Int32))])
  refine Goes.step ?_ (fun _ k => XS.iload X11.here hx rfl (hb hby at_201) rfl  k)
  show Goes p e below _ (sF T11 m 203 #[iv p1, iv p2, iv p3, iv p4, iv p5, iv p6, iv (3 : Int32), iv b0, iv b1, iv b2, iv b3, iv b4, rv ob1, rv ob8, rv u11, .unset, .unset, .unset, .unset, .unset, .unset, .unset] [(.int (3 : Int32)), (.int (3 : Int32))])
  refine Goes.step ?_ (fun _ k => XS.icmpYes X11.here hx rfl (pc0 := 203) (pc' := 208) rfl (hb hby at_203) rfl (teq (by decide : (3 : Int32) = (3 : Int32))).1 (by decide) (by decide) k)
  show Goes p e below _ (sF T11 m 208 #[iv p1, iv p2, iv p3, iv p4, iv p5, iv p6, iv (3 : Int32), iv b0, iv b1, iv b2, iv b3, iv b4, rv ob1, rv ob8, rv u11, .unset, .unset, .unset, .unset, .unset, .unset, .unset] [])
  have V_ob1_13 := (V_ob1_10.keep K11 (ninS ne_ob1_ob8 nin0))
  have E_ob8_14 := (A8.keep K11)
  exact tail208 p1 p2 p3 p4 p5 p6 (3 : Int32) b0 b1 b2 b3 b4 ob1 ob8 u11 k1 ku11 _ _ q11 (X11.mono (by decide) (by decide)) hx hZ hw hby hlk hret hml hown rfl N11 Zs11 V_ob1_13 Vu11 G11 E_ob8_14 (fun _ => rfl) (fun _ => rfl) (fun _ => rfl) (fun h => absurd h (by decide)) (fun h => absurd h (by decide)) (fun _ => rfl) (fun _ => rfl) (fun _ => rfl) (fun h => absurd h (by decide)) (fun h => absurd h (by decide)) (by rw [show maxV ((3 : Int32) - (2 : Int32)) (0 : Int32) = (1 : Int32) from by decide]; exact l111) (by rw [show maxV (((2 : Int32) * (3 : Int32)) - (4 : Int32)) (0 : Int32) = (2 : Int32) from by decide]; exact l211)
set_option maxRecDepth 65536 in
set_option maxHeartbeats 40000000 in
theorem tail31_4 {p : Program} {l : Launch} {e : Env} {s : State} {m : MethodId} {args : Array Value} {below : List Frame} {meth : Method} {c : Code} {T0 : State} {locs : List Loc} {Z : State} {a0 : Array Value} {h0 : Heap} {n0 : Nat} (p1 : Int32) (p2 : Int32) (p3 : Int32) (p4 : Int32) (p5 : Int32) (p6 : Int32) (b0 : Int32) (b1 : Int32) (b2 : Int32) (b3 : Int32) (b4 : Int32) (cK : ClassId) (one : Option Addr)
    (X0 : Stand p l e room_1 s m args below meth c T0 locs (0) (0)) (hx : p.tables.exec = Jvm.exec) (hZ : Z.Warmed39 s.vm) (hw : ∀ d ∈ tables_1, d.before a0 Z = true) (hby : c.code = code) (hlk : meth.locks = false) (hret : meth.sig.returnType = some .boolean) (hml : c.maxLocals = 22) (hown : s.vm.findClass "com/example/borderline/borderline/BorderTableShiftedPinLaw" = some m.cls) (e0 : T0.heap = h0) (N0 : Fr n0 locs) (Z0 : n0 ≤ h0.size) (hZH : Z.WarmedH s.vm) (hSame : Z.sameButNew Z [] 0 0) (hLam : Z.lambdaAt? symN 1 30 sgm = some (cK, one)) (hb0 : b0.toInt8.toInt32 = b0) (hb1 : b1.toInt8.toInt32 = b1) (hb2 : b2.toInt8.toInt32 = b2) (hb3 : b3.toInt8.toInt32 = b3) (hb4 : b4.toInt8.toInt32 = b4) :
    Goes p e below (fun o U' => ∃ v L, o = .returned v ∧ Q0 n0 v U'.heap L ∧ FrameEnd s o U' L room_1.cells room_1.slots) (T0.setTop (mkF m 31 #[iv p1, iv p2, iv p3, iv p4, iv p5, iv p6, iv (4 : Int32), iv b0, iv b1, iv b2, iv b3, iv b4, .unset, .unset, .unset, .unset, .unset, .unset, .unset, .unset, .unset, .unset] [])) := by
  show Goes p e below _ (sF T0 m 31 #[iv p1, iv p2, iv p3, iv p4, iv p5, iv p6, iv (4 : Int32), iv b0, iv b1, iv b2, iv b3, iv b4, .unset, .unset, .unset, .unset, .unset, .unset, .unset, .unset, .unset, .unset] [])
  refine Goes.step ?_ (fun _ k => XS.iload X0.here hx rfl (hb hby at_31) rfl  k)
  show Goes p e below _ (sF T0 m 33 #[iv p1, iv p2, iv p3, iv p4, iv p5, iv p6, iv (4 : Int32), iv b0, iv b1, iv b2, iv b3, iv b4, .unset, .unset, .unset, .unset, .unset, .unset, .unset, .unset, .unset, .unset] [(.int (4 : Int32))])
  refine Goes.step ?_ (fun _ k => XS.ifYes X0.here hx rfl (pc0 := 33) (pc' := 44) rfl (hb hby at_33) rfl ((if0 _ _).trans (feq (by decide : ¬ ((4 : Int32) = (0 : Int32)))).2) (by decide) (by decide) k)
  show Goes p e below _ (sF T0 m 44 #[iv p1, iv p2, iv p3, iv p4, iv p5, iv p6, iv (4 : Int32), iv b0, iv b1, iv b2, iv b3, iv b4, .unset, .unset, .unset, .unset, .unset, .unset, .unset, .unset, .unset, .unset] [])
  refine Goes.step ?_ (fun _ k => XS.iload X0.here hx rfl (hb hby at_44) rfl  k)
  show Goes p e below _ (sF T0 m 46 #[iv p1, iv p2, iv p3, iv p4, iv p5, iv p6, iv (4 : Int32), iv b0, iv b1, iv b2, iv b3, iv b4, .unset, .unset, .unset, .unset, .unset, .unset, .unset, .unset, .unset, .unset] [(.int (4 : Int32))])
  refine Goes.step ?_ (fun _ k => XS.iconst X0.here hx rfl (hb hby at_46) k)
  show Goes p e below _ (sF T0 m 47 #[iv p1, iv p2, iv p3, iv p4, iv p5, iv p6, iv (4 : Int32), iv b0, iv b1, iv b2, iv b3, iv b4, .unset, .unset, .unset, .unset, .unset, .unset, .unset, .unset, .unset, .unset] [(.int (1 : Int32)), (.int (4 : Int32))])
  refine Goes.step ?_ (fun _ k => XS.icmpYes X0.here hx rfl (pc0 := 47) (pc' := 63) rfl (hb hby at_47) rfl (feq (by decide : ¬ ((4 : Int32) = (1 : Int32)))).2 (by decide) (by decide) k)
  show Goes p e below _ (sF T0 m 63 #[iv p1, iv p2, iv p3, iv p4, iv p5, iv p6, iv (4 : Int32), iv b0, iv b1, iv b2, iv b3, iv b4, .unset, .unset, .unset, .unset, .unset, .unset, .unset, .unset, .unset, .unset] [])
  refine Goes.step ?_ (fun _ k => XS.iload X0.here hx rfl (hb hby at_63) rfl  k)
  show Goes p e below _ (sF T0 m 65 #[iv p1, iv p2, iv p3, iv p4, iv p5, iv p6, iv (4 : Int32), iv b0, iv b1, iv b2, iv b3, iv b4, .unset, .unset, .unset, .unset, .unset, .unset, .unset, .unset, .unset, .unset] [(.int (4 : Int32))])
  refine Goes.step ?_ (fun _ k => XS.iconst X0.here hx rfl (hb hby at_65) k)
  show Goes p e below _ (sF T0 m 66 #[iv p1, iv p2, iv p3, iv p4, iv p5, iv p6, iv (4 : Int32), iv b0, iv b1, iv b2, iv b3, iv b4, .unset, .unset, .unset, .unset, .unset, .unset, .unset, .unset, .unset, .unset] [(.int (2 : Int32)), (.int (4 : Int32))])
  refine Goes.step ?_ (fun _ k => XS.icmpYes X0.here hx rfl (pc0 := 66) (pc' := 87) rfl (hb hby at_66) rfl (feq (by decide : ¬ ((4 : Int32) = (2 : Int32)))).2 (by decide) (by decide) k)
  show Goes p e below _ (sF T0 m 87 #[iv p1, iv p2, iv p3, iv p4, iv p5, iv p6, iv (4 : Int32), iv b0, iv b1, iv b2, iv b3, iv b4, .unset, .unset, .unset, .unset, .unset, .unset, .unset, .unset, .unset, .unset] [])
  refine Goes.step ?_ (fun _ k => XS.iload X0.here hx rfl (hb hby at_87) rfl  k)
  show Goes p e below _ (sF T0 m 89 #[iv p1, iv p2, iv p3, iv p4, iv p5, iv p6, iv (4 : Int32), iv b0, iv b1, iv b2, iv b3, iv b4, .unset, .unset, .unset, .unset, .unset, .unset, .unset, .unset, .unset, .unset] [(.int (4 : Int32))])
  refine Goes.step ?_ (fun _ k => XS.iconst X0.here hx rfl (hb hby at_89) k)
  show Goes p e below _ (sF T0 m 90 #[iv p1, iv p2, iv p3, iv p4, iv p5, iv p6, iv (4 : Int32), iv b0, iv b1, iv b2, iv b3, iv b4, .unset, .unset, .unset, .unset, .unset, .unset, .unset, .unset, .unset, .unset] [(.int (3 : Int32)), (.int (4 : Int32))])
  refine Goes.step ?_ (fun _ k => XS.icmpYes X0.here hx rfl (pc0 := 90) (pc' := 116) rfl (hb hby at_90) rfl (feq (by decide : ¬ ((4 : Int32) = (3 : Int32)))).2 (by decide) (by decide) k)
  show Goes p e below _ (sF T0 m 116 #[iv p1, iv p2, iv p3, iv p4, iv p5, iv p6, iv (4 : Int32), iv b0, iv b1, iv b2, iv b3, iv b4, .unset, .unset, .unset, .unset, .unset, .unset, .unset, .unset, .unset, .unset] [])
  refine Goes.step ?_ (fun _ k => XS.iload X0.here hx rfl (hb hby at_116) rfl  k)
  show Goes p e below _ (sF T0 m 118 #[iv p1, iv p2, iv p3, iv p4, iv p5, iv p6, iv (4 : Int32), iv b0, iv b1, iv b2, iv b3, iv b4, .unset, .unset, .unset, .unset, .unset, .unset, .unset, .unset, .unset, .unset] [(.int (4 : Int32))])
  refine Goes.step ?_ (fun _ k => XS.iconst X0.here hx rfl (hb hby at_118) k)
  show Goes p e below _ (sF T0 m 119 #[iv p1, iv p2, iv p3, iv p4, iv p5, iv p6, iv (4 : Int32), iv b0, iv b1, iv b2, iv b3, iv b4, .unset, .unset, .unset, .unset, .unset, .unset, .unset, .unset, .unset, .unset] [(.int (4 : Int32)), (.int (4 : Int32))])
  refine Goes.step ?_ (fun _ k => XS.icmpNo X0.here hx rfl (hb hby at_119) rfl (teq (by decide : (4 : Int32) = (4 : Int32))).2 k)
  show Goes p e below _ (sF T0 m 122 #[iv p1, iv p2, iv p3, iv p4, iv p5, iv p6, iv (4 : Int32), iv b0, iv b1, iv b2, iv b3, iv b4, .unset, .unset, .unset, .unset, .unset, .unset, .unset, .unset, .unset, .unset] [])
  refine Goes.step ?_ (fun _ k => XS.iconst X0.here hx rfl (hb hby at_122) k)
  show Goes p e below _ (sF T0 m 123 #[iv p1, iv p2, iv p3, iv p4, iv p5, iv p6, iv (4 : Int32), iv b0, iv b1, iv b2, iv b3, iv b4, .unset, .unset, .unset, .unset, .unset, .unset, .unset, .unset, .unset, .unset] [(.int (4 : Int32))])
  obtain ⟨T1, h1, k1, X1, e1, E1, A1, st1⟩ := newP X0 hx hZ (hw _ (List.mem_of_getElem? (i := 1) rfl)) e0 (g := (mkF m 123 #[iv p1, iv p2, iv p3, iv p4, iv p5, iv p6, iv (4 : Int32), iv b0, iv b1, iv b2, iv b3, iv b4, .unset, .unset, .unset, .unset, .unset, .unset, .unset, .unset, .unset, .unset] [(.int (4 : Int32))])) rfl (hb hby at_123) rfl (by decide) (cap := 4) (by decide) (by decide) (by decide) (by decide)
  obtain ⟨ob1, g1⟩ : ∃ z, z = h0.size := ⟨_, rfl⟩
  rw [← g1] at A1 st1
  have g_ob1 : n0 ≤ ob1 := Nat.le_trans Z0 (Nat.le_of_eq g1.symm)
  have Zs1 : n0 ≤ h1.size := Nat.le_trans Z0 E1.1
  refine Goes.step ?_ st1
  have V_ob1 : Arv Z h1 ob1 k1 .byte (4 : Int32) [(.int (0 : Int32)), (.int (0 : Int32)), (.int (0 : Int32)), (.int (0 : Int32))] (.int (0 : Int32)) := (Arv.new A1 (by decide)).pad (pad_rep [] (.int (0 : Int32)) 4)
  show Goes p e below _ (sF T1 m 125 #[iv p1, iv p2, iv p3, iv p4, iv p5, iv p6, iv (4 : Int32), iv b0, iv b1, iv b2, iv b3, iv b4, .unset, .unset, .unset, .unset, .unset, .unset, .unset, .unset, .unset, .unset] [(.ref ob1)])
  refine Goes.step ?_ (fun _ k => XS.dup X1.here hx rfl (hb hby at_125) rfl rfl k)
  show Goes p e below _ (sF T1 m 126 #[iv p1, iv p2, iv p3, iv p4, iv p5, iv p6, iv (4 : Int32), iv b0, iv b1, iv b2, iv b3, iv b4, .unset, .unset, .unset, .unset, .unset, .unset, .unset, .unset, .unset, .unset] [(.ref ob1), (.ref ob1)])
  refine Goes.step ?_ (fun _ k => XS.iconst X1.here hx rfl (hb hby at_126) k)
  show Goes p e below _ (sF T1 m 127 #[iv p1, iv p2, iv p3, iv p4, iv p5, iv p6, iv (4 : Int32), iv b0, iv b1, iv b2, iv b3, iv b4, .unset, .unset, .unset, .unset, .unset, .unset, .unset, .unset, .unset, .unset] [(.int (0 : Int32)), (.ref ob1), (.ref ob1)])
  refine Goes.step ?_ (fun _ k => XS.iload X1.here hx rfl (hb hby at_127) rfl  k)
  show Goes p e below _ (sF T1 m 129 #[iv p1, iv p2, iv p3, iv p4, iv p5, iv p6, iv (4 : Int32), iv b0, iv b1, iv b2, iv b3, iv b4, .unset, .unset, .unset, .unset, .unset, .unset, .unset, .unset, .unset, .unset] [(.int b0), (.int (0 : Int32)), (.ref ob1), (.ref ob1)])
  obtain ⟨cl2, Ar2, q2, S2, N_2, H2, G2⟩ := id V_ob1
  have hin3 : ¬ ((0 : Int32) < 0 ∨ cl2.slots.size ≤ ((0 : Int32)).toNatClampNeg) := inb_of S2 ⟨by decide, by decide⟩
  obtain ⟨T3, h3, X3, e3, W3, st3⟩ := stB X1 hx hZ e1 Ar2 (j := (0 : Int32)) hin3 (g := (mkF m 129 #[iv p1, iv p2, iv p3, iv p4, iv p5, iv p6, iv (4 : Int32), iv b0, iv b1, iv b2, iv b3, iv b4, .unset, .unset, .unset, .unset, .unset, .unset, .unset, .unset, .unset, .unset] [(.int b0), (.int (0 : Int32)), (.ref ob1), (.ref ob1)])) rfl rfl (hb hby at_129)
  have V0_3 : Arv Z h3 ob1 k1 .byte (4 : Int32) [(.int (b0.toInt8.toInt32)), (.int (0 : Int32)), (.int (0 : Int32)), (.int (0 : Int32))] (.int (0 : Int32)) := Arv.set Ar2 q2 S2 N_2 H2 G2 (fits_nar_byte _) W3 0 rfl (Nat.le_of_ble_eq_true rfl)
  have V_3 : Arv Z h3 ob1 k1 .byte (4 : Int32) [(.int b0), (.int (0 : Int32)), (.int (0 : Int32)), (.int (0 : Int32))] (.int (0 : Int32)) := by rw [hb0] at V0_3; exact V0_3
  have Zs3 : n0 ≤ h3.size := Nat.le_trans Zs1 (Keep.of_wr W3).1
  have N3 := Fr.snoc X3 N0 g_ob1
  refine Goes.step ?_ st3
  show Goes p e below _ (sF T3 m 130 #[iv p1, iv p2, iv p3, iv p4, iv p5, iv p6, iv (4 : Int32), iv b0, iv b1, iv b2, iv b3, iv b4, .unset, .unset, .unset, .unset, .unset, .unset, .unset, .unset, .unset, .unset] [(.ref ob1)])
  refine Goes.step ?_ (fun _ k => XS.dup X3.here hx rfl (hb hby at_130) rfl rfl k)
  show Goes p e below _ (sF T3 m 131 #[iv p1, iv p2, iv p3, iv p4, iv p5, iv p6, iv (4 : Int32), iv b0, iv b1, iv b2, iv b3, iv b4, .unset, .unset, .unset, .unset, .unset, .unset, .unset, .unset, .unset, .unset] [(.ref ob1), (.ref ob1)])
  refine Goes.step ?_ (fun _ k => XS.iconst X3.here hx rfl (hb hby at_131) k)
  show Goes p e below _ (sF T3 m 132 #[iv p1, iv p2, iv p3, iv p4, iv p5, iv p6, iv (4 : Int32), iv b0, iv b1, iv b2, iv b3, iv b4, .unset, .unset, .unset, .unset, .unset, .unset, .unset, .unset, .unset, .unset] [(.int (1 : Int32)), (.ref ob1), (.ref ob1)])
  refine Goes.step ?_ (fun _ k => XS.iload X3.here hx rfl (hb hby at_132) rfl  k)
  show Goes p e below _ (sF T3 m 134 #[iv p1, iv p2, iv p3, iv p4, iv p5, iv p6, iv (4 : Int32), iv b0, iv b1, iv b2, iv b3, iv b4, .unset, .unset, .unset, .unset, .unset, .unset, .unset, .unset, .unset, .unset] [(.int b1), (.int (1 : Int32)), (.ref ob1), (.ref ob1)])
  obtain ⟨cl4, Ar4, q4, S4, N_4, H4, G4⟩ := id V_3
  have hin5 : ¬ ((1 : Int32) < 0 ∨ cl4.slots.size ≤ ((1 : Int32)).toNatClampNeg) := inb_of S4 ⟨by decide, by decide⟩
  obtain ⟨T5, h5, X5, e5, W5, st5⟩ := stB X3 hx hZ e3 Ar4 (j := (1 : Int32)) hin5 (g := (mkF m 134 #[iv p1, iv p2, iv p3, iv p4, iv p5, iv p6, iv (4 : Int32), iv b0, iv b1, iv b2, iv b3, iv b4, .unset, .unset, .unset, .unset, .unset, .unset, .unset, .unset, .unset, .unset] [(.int b1), (.int (1 : Int32)), (.ref ob1), (.ref ob1)])) rfl rfl (hb hby at_134)
  have V0_5 : Arv Z h5 ob1 k1 .byte (4 : Int32) [(.int b0), (.int (b1.toInt8.toInt32)), (.int (0 : Int32)), (.int (0 : Int32))] (.int (0 : Int32)) := Arv.set Ar4 q4 S4 N_4 H4 G4 (fits_nar_byte _) W5 1 rfl (Nat.le_of_ble_eq_true rfl)
  have V_5 : Arv Z h5 ob1 k1 .byte (4 : Int32) [(.int b0), (.int b1), (.int (0 : Int32)), (.int (0 : Int32))] (.int (0 : Int32)) := by rw [hb1] at V0_5; exact V0_5
  have Zs5 : n0 ≤ h5.size := Nat.le_trans Zs3 (Keep.of_wr W5).1
  have N5 := Fr.snoc X5 N3 g_ob1
  refine Goes.step ?_ st5
  show Goes p e below _ (sF T5 m 135 #[iv p1, iv p2, iv p3, iv p4, iv p5, iv p6, iv (4 : Int32), iv b0, iv b1, iv b2, iv b3, iv b4, .unset, .unset, .unset, .unset, .unset, .unset, .unset, .unset, .unset, .unset] [(.ref ob1)])
  refine Goes.step ?_ (fun _ k => XS.dup X5.here hx rfl (hb hby at_135) rfl rfl k)
  show Goes p e below _ (sF T5 m 136 #[iv p1, iv p2, iv p3, iv p4, iv p5, iv p6, iv (4 : Int32), iv b0, iv b1, iv b2, iv b3, iv b4, .unset, .unset, .unset, .unset, .unset, .unset, .unset, .unset, .unset, .unset] [(.ref ob1), (.ref ob1)])
  refine Goes.step ?_ (fun _ k => XS.iconst X5.here hx rfl (hb hby at_136) k)
  show Goes p e below _ (sF T5 m 137 #[iv p1, iv p2, iv p3, iv p4, iv p5, iv p6, iv (4 : Int32), iv b0, iv b1, iv b2, iv b3, iv b4, .unset, .unset, .unset, .unset, .unset, .unset, .unset, .unset, .unset, .unset] [(.int (2 : Int32)), (.ref ob1), (.ref ob1)])
  refine Goes.step ?_ (fun _ k => XS.iload X5.here hx rfl (hb hby at_137) rfl  k)
  show Goes p e below _ (sF T5 m 139 #[iv p1, iv p2, iv p3, iv p4, iv p5, iv p6, iv (4 : Int32), iv b0, iv b1, iv b2, iv b3, iv b4, .unset, .unset, .unset, .unset, .unset, .unset, .unset, .unset, .unset, .unset] [(.int b2), (.int (2 : Int32)), (.ref ob1), (.ref ob1)])
  obtain ⟨cl6, Ar6, q6, S6, N_6, H6, G6⟩ := id V_5
  have hin7 : ¬ ((2 : Int32) < 0 ∨ cl6.slots.size ≤ ((2 : Int32)).toNatClampNeg) := inb_of S6 ⟨by decide, by decide⟩
  obtain ⟨T7, h7, X7, e7, W7, st7⟩ := stB X5 hx hZ e5 Ar6 (j := (2 : Int32)) hin7 (g := (mkF m 139 #[iv p1, iv p2, iv p3, iv p4, iv p5, iv p6, iv (4 : Int32), iv b0, iv b1, iv b2, iv b3, iv b4, .unset, .unset, .unset, .unset, .unset, .unset, .unset, .unset, .unset, .unset] [(.int b2), (.int (2 : Int32)), (.ref ob1), (.ref ob1)])) rfl rfl (hb hby at_139)
  have V0_7 : Arv Z h7 ob1 k1 .byte (4 : Int32) [(.int b0), (.int b1), (.int (b2.toInt8.toInt32)), (.int (0 : Int32))] (.int (0 : Int32)) := Arv.set Ar6 q6 S6 N_6 H6 G6 (fits_nar_byte _) W7 2 rfl (Nat.le_of_ble_eq_true rfl)
  have V_7 : Arv Z h7 ob1 k1 .byte (4 : Int32) [(.int b0), (.int b1), (.int b2), (.int (0 : Int32))] (.int (0 : Int32)) := by rw [hb2] at V0_7; exact V0_7
  have Zs7 : n0 ≤ h7.size := Nat.le_trans Zs5 (Keep.of_wr W7).1
  have N7 := Fr.snoc X7 N5 g_ob1
  refine Goes.step ?_ st7
  show Goes p e below _ (sF T7 m 140 #[iv p1, iv p2, iv p3, iv p4, iv p5, iv p6, iv (4 : Int32), iv b0, iv b1, iv b2, iv b3, iv b4, .unset, .unset, .unset, .unset, .unset, .unset, .unset, .unset, .unset, .unset] [(.ref ob1)])
  refine Goes.step ?_ (fun _ k => XS.dup X7.here hx rfl (hb hby at_140) rfl rfl k)
  show Goes p e below _ (sF T7 m 141 #[iv p1, iv p2, iv p3, iv p4, iv p5, iv p6, iv (4 : Int32), iv b0, iv b1, iv b2, iv b3, iv b4, .unset, .unset, .unset, .unset, .unset, .unset, .unset, .unset, .unset, .unset] [(.ref ob1), (.ref ob1)])
  refine Goes.step ?_ (fun _ k => XS.iconst X7.here hx rfl (hb hby at_141) k)
  show Goes p e below _ (sF T7 m 142 #[iv p1, iv p2, iv p3, iv p4, iv p5, iv p6, iv (4 : Int32), iv b0, iv b1, iv b2, iv b3, iv b4, .unset, .unset, .unset, .unset, .unset, .unset, .unset, .unset, .unset, .unset] [(.int (3 : Int32)), (.ref ob1), (.ref ob1)])
  refine Goes.step ?_ (fun _ k => XS.iload X7.here hx rfl (hb hby at_142) rfl  k)
  show Goes p e below _ (sF T7 m 144 #[iv p1, iv p2, iv p3, iv p4, iv p5, iv p6, iv (4 : Int32), iv b0, iv b1, iv b2, iv b3, iv b4, .unset, .unset, .unset, .unset, .unset, .unset, .unset, .unset, .unset, .unset] [(.int b3), (.int (3 : Int32)), (.ref ob1), (.ref ob1)])
  obtain ⟨cl8, Ar8, q8, S8, N_8, H8, G8⟩ := id V_7
  have hin9 : ¬ ((3 : Int32) < 0 ∨ cl8.slots.size ≤ ((3 : Int32)).toNatClampNeg) := inb_of S8 ⟨by decide, by decide⟩
  obtain ⟨T9, h9, X9, e9, W9, st9⟩ := stB X7 hx hZ e7 Ar8 (j := (3 : Int32)) hin9 (g := (mkF m 144 #[iv p1, iv p2, iv p3, iv p4, iv p5, iv p6, iv (4 : Int32), iv b0, iv b1, iv b2, iv b3, iv b4, .unset, .unset, .unset, .unset, .unset, .unset, .unset, .unset, .unset, .unset] [(.int b3), (.int (3 : Int32)), (.ref ob1), (.ref ob1)])) rfl rfl (hb hby at_144)
  have V0_9 : Arv Z h9 ob1 k1 .byte (4 : Int32) [(.int b0), (.int b1), (.int b2), (.int (b3.toInt8.toInt32))] (.int (0 : Int32)) := Arv.set Ar8 q8 S8 N_8 H8 G8 (fits_nar_byte _) W9 3 rfl (Nat.le_of_ble_eq_true rfl)
  have V_9 : Arv Z h9 ob1 k1 .byte (4 : Int32) [(.int b0), (.int b1), (.int b2), (.int b3)] (.int (0 : Int32)) := by rw [hb3] at V0_9; exact V0_9
  have Zs9 : n0 ≤ h9.size := Nat.le_trans Zs7 (Keep.of_wr W9).1
  have N9 := Fr.snoc X9 N7 g_ob1
  refine Goes.step ?_ st9
  show Goes p e below _ (sF T9 m 145 #[iv p1, iv p2, iv p3, iv p4, iv p5, iv p6, iv (4 : Int32), iv b0, iv b1, iv b2, iv b3, iv b4, .unset, .unset, .unset, .unset, .unset, .unset, .unset, .unset, .unset, .unset] [(.ref ob1)])
  refine Goes.step ?_ (fun _ k => XS.astore X9.here hx rfl (hb hby at_145) rfl rfl (l' := #[iv p1, iv p2, iv p3, iv p4, iv p5, iv p6, iv (4 : Int32), iv b0, iv b1, iv b2, iv b3, iv b4, rv ob1, .unset, .unset, .unset, .unset, .unset, .unset, .unset, .unset, .unset]) rfl k)
  show Goes p e below _ (sF T9 m 147 #[iv p1, iv p2, iv p3, iv p4, iv p5, iv p6, iv (4 : Int32), iv b0, iv b1, iv b2, iv b3, iv b4, rv ob1, .unset, .unset, .unset, .unset, .unset, .unset, .unset, .unset, .unset] [])
  refine Goes.step ?_ (fun _ k => XS.goto X9.here hx rfl (pc0 := 147) (pc' := 180) rfl (hb hby at_147) (by decide) (by decide) k)
  show Goes p e below _ (sF T9 m 180 #[iv p1, iv p2, iv p3, iv p4, iv p5, iv p6, iv (4 : Int32), iv b0, iv b1, iv b2, iv b3, iv b4, rv ob1, .unset, .unset, .unset, .unset, .unset, .unset, .unset, .unset, .unset] [])
  obtain ⟨T10, h10, X10, e10, E10, A10, D10, -, st10⟩ := newO X9 hx hZ hown (hw _ (List.mem_of_getElem? (i := 2) rfl)) (hw _ (List.mem_of_getElem? (i := 3) rfl)) (hw _ (List.mem_of_getElem? (i := 4) rfl)) e9 (g := (mkF m 180 #[iv p1, iv p2, iv p3, iv p4, iv p5, iv p6, iv (4 : Int32), iv b0, iv b1, iv b2, iv b3, iv b4, rv ob1, .unset, .unset, .unset, .unset, .unset, .unset, .unset, .unset, .unset] [])) rfl (hb hby at_180) (by decide) (by decide)
  obtain ⟨ob10, g10⟩ : ∃ z, z = h9.size := ⟨_, rfl⟩
  rw [← g10] at A10 D10 st10
  have g_ob10 : n0 ≤ ob10 := Nat.le_trans Zs9 (Nat.le_of_eq g10.symm)
  have ne_ob1_ob10 : ob1 ≠ ob10 := Nat.ne_of_lt (Nat.lt_of_lt_of_le V_9.lt (Nat.le_of_eq g10.symm))
  have Zs10 : n0 ≤ h10.size := Nat.le_trans Zs9 E10.1
  refine Goes.step ?_ st10
  have F_count_ob10 : Fld Z h10 ob10 "com/example/borderline/borderline/Comparisons" "count" "J" (.long (0 : Int64)) := D10 (Or.inl (hw _ (List.mem_of_getElem? (i := 22) rfl))) (ty := .long) (by decide)
  show Goes p e below _ (sF T10 m 183 #[iv p1, iv p2, iv p3, iv p4, iv p5, iv p6, iv (4 : Int32), iv b0, iv b1, iv b2, iv b3, iv b4, rv ob1, .unset, .unset, .unset, .unset, .unset, .unset, .unset, .unset, .unset] [(.ref ob10)])
  refine Goes.step ?_ (fun _ k => XS.dup X10.here hx rfl (hb hby at_183) rfl rfl k)
  show Goes p e below _ (sF T10 m 184 #[iv p1, iv p2, iv p3, iv p4, iv p5, iv p6, iv (4 : Int32), iv b0, iv b1, iv b2, iv b3, iv b4, rv ob1, .unset, .unset, .unset, .unset, .unset, .unset, .unset, .unset, .unset] [(.ref ob10), (.ref ob10)])
  obtain ⟨_, _, ⟨T11, L11, k11, n11⟩, -, X11, ⟨Lc11, hQ11, l11, y11, z11⟩, st11⟩ := X10.specialBack hx (y := (⟨"com/example/borderline/borderline/Comparisons", "<init>", "()V"⟩ : MethodName)) rfl hown (mvT hZ (hw _ (List.mem_of_getElem? (i := 5) rfl))) (mvT hZ (hw _ (List.mem_of_getElem? (i := 6) rfl))) (mvT hZ (hw _ (List.mem_of_getElem? (i := 7) rfl))) (by decide) (backOf (W := 1) (rmNew l Z a0 hw [] ob10  h10 n0 Zs10 ) hZ (hw _ (List.mem_of_getElem? (i := 7) rfl)) (hw _ (List.mem_of_getElem? (i := 4) rfl)) (by decide) (by decide)) (g := (mkF m 184 #[iv p1, iv p2, iv p3, iv p4, iv p5, iv p6, iv (4 : Int32), iv b0, iv b1, iv b2, iv b3, iv b4, rv ob1, .unset, .unset, .unset, .unset, .unset, .unset, .unset, .unset, .unset] [(.ref ob10), (.ref ob10)])) rfl (by rw [hml]; rfl) (Steps.refl _) (a := ob10) (argsL := []) (rest := [(.ref ob10)]) (lenOf pd__28_29V rfl) rfl (by show 2 * 0 + _ ≤ _; exact Nat.le_of_eq rfl) (hb hby at_184) (fun _ _ => ⟨rfl, e10, (by decide : 0 + 1 + 1 + 0 ≤ _), (by decide : 0 + 4 + 1 + 0 ≤ _)⟩)
  dsimp only [Pt.U, Pt.locs, Pt.cells, Pt.slots] at X11 l11 y11 z11 st11 hQ11
  subst l11 y11 z11
  obtain ⟨rfl, N11q, e11⟩ := hQ11
  have N11 := Fr.app N9 N11q
  refine Goes.step ?_ (fun _ k => st11.trans k)
  show Goes p e below _ (sF T11 m 187 #[iv p1, iv p2, iv p3, iv p4, iv p5, iv p6, iv (4 : Int32), iv b0, iv b1, iv b2, iv b3, iv b4, rv ob1, .unset, .unset, .unset, .unset, .unset, .unset, .unset, .unset, .unset] [(.ref ob10)])
  refine Goes.step ?_ (fun _ k => XS.astore X11.here hx rfl (hb hby at_187) rfl rfl (l' := #[iv p1, iv p2, iv p3, iv p4, iv p5, iv p6, iv (4 : Int32), iv b0, iv b1, iv b2, iv b3, iv b4, rv ob1, rv ob10, .unset, .unset, .unset, .unset, .unset, .unset, .unset, .unset]) rfl k)
  show Goes p e below _ (sF T11 m 189 #[iv p1, iv p2, iv p3, iv p4, iv p5, iv p6, iv (4 : Int32), iv b0, iv b1, iv b2, iv b3, iv b4, rv ob1, rv ob10, .unset, .unset, .unset, .unset, .unset, .unset, .unset, .unset] [])
  refine Goes.step ?_ (fun _ k => XS.aload X11.here hx rfl (hb hby at_189) rfl rfl k)
  show Goes p e below _ (sF T11 m 191 #[iv p1, iv p2, iv p3, iv p4, iv p5, iv p6, iv (4 : Int32), iv b0, iv b1, iv b2, iv b3, iv b4, rv ob1, rv ob10, .unset, .unset, .unset, .unset, .unset, .unset, .unset, .unset] [(.ref ob1)])
  refine Goes.step ?_ (fun _ k => XS.aload X11.here hx rfl (hb hby at_191) rfl rfl k)
  show Goes p e below _ (sF T11 m 193 #[iv p1, iv p2, iv p3, iv p4, iv p5, iv p6, iv (4 : Int32), iv b0, iv b1, iv b2, iv b3, iv b4, rv ob1, rv ob10, .unset, .unset, .unset, .unset, .unset, .unset, .unset, .unset] [(.ref ob10), (.ref ob1)])
  have V_ob1_12 := (V_9.ext E10)
  obtain ⟨_, _, ⟨T13, L13, k13, n13⟩, -, X13, ⟨Lc13, hQ13, l13, y13, z13⟩, st13⟩ := Jvm.LawKit.callS X11 hx (y := (⟨"com/example/borderline/borderline/BorderTable", "shifted", "([BLcom/example/borderline/borderline/Comparisons;)[I"⟩ : MethodName)) hown (mvT hZ (hw _ (List.mem_of_getElem? (i := 11) rfl))) (mvT hZ (hw _ (List.mem_of_getElem? (i := 12) rfl))) (mvT hZ (hw _ (List.mem_of_getElem? (i := 13) rfl))) (mvT hZ (hw _ (List.mem_of_getElem? (i := 14) rfl))) (by decide) (own_backH (W := 0) (rmSh4 l Z a0 hw [] ob1 ob10 cK one k1 b0 b1 b2 b3 h10 n0 Zs10 hSame hLam V_ob1_12 F_count_ob10 A10 g_ob10) hZH (hw _ (List.mem_of_getElem? (i := 14) rfl)) (hw _ (List.mem_of_getElem? (i := 13) rfl)) (by decide) (by decide)) (g := (mkF m 193 #[iv p1, iv p2, iv p3, iv p4, iv p5, iv p6, iv (4 : Int32), iv b0, iv b1, iv b2, iv b3, iv b4, rv ob1, rv ob10, .unset, .unset, .unset, .unset, .unset, .unset, .unset, .unset] [(.ref ob10), (.ref ob1)])) rfl (by rw [hml]; rfl) (argsL := [(.ref ob1), (.ref ob10)]) (rest := []) (lenOf pd__28_5bBLcom_2fexample_2fborderline_2fborderline_2fComparisons_3b_29_5bI rfl) rfl (by show 2 * 0 + _ ≤ _; exact Nat.le_of_eq rfl) (hb hby at_193) (fun _ _ => ⟨rfl, e11, (by decide : 0 + 1 + 1 + 2 ≤ _), (by decide : 0 + 4 + 1 + 5 ≤ _)⟩)
  dsimp only [Pt.U, Pt.locs, Pt.cells, Pt.slots] at X13 l13 y13 z13 st13 hQ13
  subst l13 y13 z13
  obtain ⟨u13, ku13, q13, rfl, N13q, K13, gu13, Vu13, G13, l113, l213⟩ := hQ13
  have N13 := Fr.app N11 N13q
  refine Goes.step ?_ st13
  have g_u13 : n0 ≤ u13 := Nat.le_trans Zs10 gu13
  have ne_ob1_u13 : ob1 ≠ u13 := Nat.ne_of_lt (Nat.lt_of_lt_of_le V_ob1_12.lt gu13)
  have ne_ob10_u13 : ob10 ≠ u13 := Nat.ne_of_lt (Nat.lt_of_lt_of_le A10.lt gu13)
  have Zs13 : n0 ≤ T13.heap.size := Nat.le_trans Zs10 K13.1
  show Goes p e below _ (sF T13 m 196 #[iv p1, iv p2, iv p3, iv p4, iv p5, iv p6, iv (4 : Int32), iv b0, iv b1, iv b2, iv b3, iv b4, rv ob1, rv ob10, .unset, .unset, .unset, .unset, .unset, .unset, .unset, .unset] [(.ref u13)])
  refine Goes.step ?_ (fun _ k => XS.astore X13.here hx rfl (hb hby at_196) rfl rfl (l' := #[iv p1, iv p2, iv p3, iv p4, iv p5, iv p6, iv (4 : Int32), iv b0, iv b1, iv b2, iv b3, iv b4, rv ob1, rv ob10, rv u13, .unset, .unset, .unset, .unset, .unset, .unset, .unset]) rfl k)
  show Goes p e below _ (sF T13 m 198 #[iv p1, iv p2, iv p3, iv p4, iv p5, iv p6, iv (4 : Int32), iv b0, iv b1, iv b2, iv b3, iv b4, rv ob1, rv ob10, rv u13, .unset, .unset, .unset, .unset, .unset, .unset, .unset] [])
  refine Goes.step ?_ (fun _ k => XS.aload X13.here hx rfl (hb hby at_198) rfl rfl k)
  show Goes p e below _ (sF T13 m 200 #[iv p1, iv p2, iv p3, iv p4, iv p5, iv p6, iv (4 : Int32), iv b0, iv b1, iv b2, iv b3, iv b4, rv ob1, rv ob10, rv u13, .unset, .unset, .unset, .unset, .unset, .unset, .unset] [(.ref u13)])
  obtain ⟨cl14, Ar14, q14, S14, N_14, H14, G14⟩ := id Vu13
  refine Goes.step ?_ (fun _ k => X13.arraylength hx Ar14.1 (State.isArrayOf_alike hZ.alike Ar14.2.1) (g := (mkF m 200 #[iv p1, iv p2, iv p3, iv p4, iv p5, iv p6, iv (4 : Int32), iv b0, iv b1, iv b2, iv b3, iv b4, rv ob1, rv ob10, rv u13, .unset, .unset, .unset, .unset, .unset, .unset, .unset] [(.ref u13)])) rfl rfl (hb hby at_200) _ k)
  rw [len_of S14 N_14]
  show Goes p e below _ (sF T13 m 201 #[iv p1, iv p2, iv p3, iv p4, iv p5, iv p6, iv (4 : Int32), iv b0, iv b1, iv b2, iv b3, iv b4, rv ob1, rv ob10, rv u13, .unset, .unset, .unset, .unset, .unset, .unset, .unset] [(.int (4 : Int32))])
  refine Goes.step ?_ (fun _ k => XS.iload X13.here hx rfl (hb hby at_201) rfl  k)
  show Goes p e below _ (sF T13 m 203 #[iv p1, iv p2, iv p3, iv p4, iv p5, iv p6, iv (4 : Int32), iv b0, iv b1, iv b2, iv b3, iv b4, rv ob1, rv ob10, rv u13, .unset, .unset, .unset, .unset, .unset, .unset, .unset] [(.int (4 : Int32)), (.int (4 : Int32))])
  refine Goes.step ?_ (fun _ k => XS.icmpYes X13.here hx rfl (pc0 := 203) (pc' := 208) rfl (hb hby at_203) rfl (teq (by decide : (4 : Int32) = (4 : Int32))).1 (by decide) (by decide) k)
  show Goes p e below _ (sF T13 m 208 #[iv p1, iv p2, iv p3, iv p4, iv p5, iv p6, iv (4 : Int32), iv b0, iv b1, iv b2, iv b3, iv b4, rv ob1, rv ob10, rv u13, .unset, .unset, .unset, .unset, .unset, .unset, .unset] [])
  have V_ob1_15 := (V_ob1_12.keep K13 (ninS ne_ob1_ob10 nin0))
  have E_ob10_16 := (A10.keep K13)
  exact tail208 p1 p2 p3 p4 p5 p6 (4 : Int32) b0 b1 b2 b3 b4 ob1 ob10 u13 k1 ku13 _ _ q13 (X13.mono (by decide) (by decide)) hx hZ hw hby hlk hret hml hown rfl N13 Zs13 V_ob1_15 Vu13 G13 E_ob10_16 (fun _ => rfl) (fun _ => rfl) (fun _ => rfl) (fun _ => rfl) (fun h => absurd h (by decide)) (fun _ => rfl) (fun _ => rfl) (fun _ => rfl) (fun _ => rfl) (fun h => absurd h (by decide)) (by rw [show maxV ((4 : Int32) - (2 : Int32)) (0 : Int32) = (2 : Int32) from by decide]; exact l113) (by rw [show maxV (((2 : Int32) * (4 : Int32)) - (4 : Int32)) (0 : Int32) = (4 : Int32) from by decide]; exact l213)
set_option maxRecDepth 65536 in
set_option maxHeartbeats 40000000 in
theorem tail31_5 {p : Program} {l : Launch} {e : Env} {s : State} {m : MethodId} {args : Array Value} {below : List Frame} {meth : Method} {c : Code} {T0 : State} {locs : List Loc} {Z : State} {a0 : Array Value} {h0 : Heap} {n0 : Nat} (p1 : Int32) (p2 : Int32) (p3 : Int32) (p4 : Int32) (p5 : Int32) (p6 : Int32) (b0 : Int32) (b1 : Int32) (b2 : Int32) (b3 : Int32) (b4 : Int32) (cK : ClassId) (one : Option Addr)
    (X0 : Stand p l e room_1 s m args below meth c T0 locs (0) (0)) (hx : p.tables.exec = Jvm.exec) (hZ : Z.Warmed39 s.vm) (hw : ∀ d ∈ tables_1, d.before a0 Z = true) (hby : c.code = code) (hlk : meth.locks = false) (hret : meth.sig.returnType = some .boolean) (hml : c.maxLocals = 22) (hown : s.vm.findClass "com/example/borderline/borderline/BorderTableShiftedPinLaw" = some m.cls) (e0 : T0.heap = h0) (N0 : Fr n0 locs) (Z0 : n0 ≤ h0.size) (hZH : Z.WarmedH s.vm) (hSame : Z.sameButNew Z [] 0 0) (hLam : Z.lambdaAt? symN 1 30 sgm = some (cK, one)) (hb0 : b0.toInt8.toInt32 = b0) (hb1 : b1.toInt8.toInt32 = b1) (hb2 : b2.toInt8.toInt32 = b2) (hb3 : b3.toInt8.toInt32 = b3) (hb4 : b4.toInt8.toInt32 = b4) :
    Goes p e below (fun o U' => ∃ v L, o = .returned v ∧ Q0 n0 v U'.heap L ∧ FrameEnd s o U' L room_1.cells room_1.slots) (T0.setTop (mkF m 31 #[iv p1, iv p2, iv p3, iv p4, iv p5, iv p6, iv (5 : Int32), iv b0, iv b1, iv b2, iv b3, iv b4, .unset, .unset, .unset, .unset, .unset, .unset, .unset, .unset, .unset, .unset] [])) := by
  show Goes p e below _ (sF T0 m 31 #[iv p1, iv p2, iv p3, iv p4, iv p5, iv p6, iv (5 : Int32), iv b0, iv b1, iv b2, iv b3, iv b4, .unset, .unset, .unset, .unset, .unset, .unset, .unset, .unset, .unset, .unset] [])
  refine Goes.step ?_ (fun _ k => XS.iload X0.here hx rfl (hb hby at_31) rfl  k)
  show Goes p e below _ (sF T0 m 33 #[iv p1, iv p2, iv p3, iv p4, iv p5, iv p6, iv (5 : Int32), iv b0, iv b1, iv b2, iv b3, iv b4, .unset, .unset, .unset, .unset, .unset, .unset, .unset, .unset, .unset, .unset] [(.int (5 : Int32))])
  refine Goes.step ?_ (fun _ k => XS.ifYes X0.here hx rfl (pc0 := 33) (pc' := 44) rfl (hb hby at_33) rfl ((if0 _ _).trans (feq (by decide : ¬ ((5 : Int32) = (0 : Int32)))).2) (by decide) (by decide) k)
  show Goes p e below _ (sF T0 m 44 #[iv p1, iv p2, iv p3, iv p4, iv p5, iv p6, iv (5 : Int32), iv b0, iv b1, iv b2, iv b3, iv b4, .unset, .unset, .unset, .unset, .unset, .unset, .unset, .unset, .unset, .unset] [])
  refine Goes.step ?_ (fun _ k => XS.iload X0.here hx rfl (hb hby at_44) rfl  k)
  show Goes p e below _ (sF T0 m 46 #[iv p1, iv p2, iv p3, iv p4, iv p5, iv p6, iv (5 : Int32), iv b0, iv b1, iv b2, iv b3, iv b4, .unset, .unset, .unset, .unset, .unset, .unset, .unset, .unset, .unset, .unset] [(.int (5 : Int32))])
  refine Goes.step ?_ (fun _ k => XS.iconst X0.here hx rfl (hb hby at_46) k)
  show Goes p e below _ (sF T0 m 47 #[iv p1, iv p2, iv p3, iv p4, iv p5, iv p6, iv (5 : Int32), iv b0, iv b1, iv b2, iv b3, iv b4, .unset, .unset, .unset, .unset, .unset, .unset, .unset, .unset, .unset, .unset] [(.int (1 : Int32)), (.int (5 : Int32))])
  refine Goes.step ?_ (fun _ k => XS.icmpYes X0.here hx rfl (pc0 := 47) (pc' := 63) rfl (hb hby at_47) rfl (feq (by decide : ¬ ((5 : Int32) = (1 : Int32)))).2 (by decide) (by decide) k)
  show Goes p e below _ (sF T0 m 63 #[iv p1, iv p2, iv p3, iv p4, iv p5, iv p6, iv (5 : Int32), iv b0, iv b1, iv b2, iv b3, iv b4, .unset, .unset, .unset, .unset, .unset, .unset, .unset, .unset, .unset, .unset] [])
  refine Goes.step ?_ (fun _ k => XS.iload X0.here hx rfl (hb hby at_63) rfl  k)
  show Goes p e below _ (sF T0 m 65 #[iv p1, iv p2, iv p3, iv p4, iv p5, iv p6, iv (5 : Int32), iv b0, iv b1, iv b2, iv b3, iv b4, .unset, .unset, .unset, .unset, .unset, .unset, .unset, .unset, .unset, .unset] [(.int (5 : Int32))])
  refine Goes.step ?_ (fun _ k => XS.iconst X0.here hx rfl (hb hby at_65) k)
  show Goes p e below _ (sF T0 m 66 #[iv p1, iv p2, iv p3, iv p4, iv p5, iv p6, iv (5 : Int32), iv b0, iv b1, iv b2, iv b3, iv b4, .unset, .unset, .unset, .unset, .unset, .unset, .unset, .unset, .unset, .unset] [(.int (2 : Int32)), (.int (5 : Int32))])
  refine Goes.step ?_ (fun _ k => XS.icmpYes X0.here hx rfl (pc0 := 66) (pc' := 87) rfl (hb hby at_66) rfl (feq (by decide : ¬ ((5 : Int32) = (2 : Int32)))).2 (by decide) (by decide) k)
  show Goes p e below _ (sF T0 m 87 #[iv p1, iv p2, iv p3, iv p4, iv p5, iv p6, iv (5 : Int32), iv b0, iv b1, iv b2, iv b3, iv b4, .unset, .unset, .unset, .unset, .unset, .unset, .unset, .unset, .unset, .unset] [])
  refine Goes.step ?_ (fun _ k => XS.iload X0.here hx rfl (hb hby at_87) rfl  k)
  show Goes p e below _ (sF T0 m 89 #[iv p1, iv p2, iv p3, iv p4, iv p5, iv p6, iv (5 : Int32), iv b0, iv b1, iv b2, iv b3, iv b4, .unset, .unset, .unset, .unset, .unset, .unset, .unset, .unset, .unset, .unset] [(.int (5 : Int32))])
  refine Goes.step ?_ (fun _ k => XS.iconst X0.here hx rfl (hb hby at_89) k)
  show Goes p e below _ (sF T0 m 90 #[iv p1, iv p2, iv p3, iv p4, iv p5, iv p6, iv (5 : Int32), iv b0, iv b1, iv b2, iv b3, iv b4, .unset, .unset, .unset, .unset, .unset, .unset, .unset, .unset, .unset, .unset] [(.int (3 : Int32)), (.int (5 : Int32))])
  refine Goes.step ?_ (fun _ k => XS.icmpYes X0.here hx rfl (pc0 := 90) (pc' := 116) rfl (hb hby at_90) rfl (feq (by decide : ¬ ((5 : Int32) = (3 : Int32)))).2 (by decide) (by decide) k)
  show Goes p e below _ (sF T0 m 116 #[iv p1, iv p2, iv p3, iv p4, iv p5, iv p6, iv (5 : Int32), iv b0, iv b1, iv b2, iv b3, iv b4, .unset, .unset, .unset, .unset, .unset, .unset, .unset, .unset, .unset, .unset] [])
  refine Goes.step ?_ (fun _ k => XS.iload X0.here hx rfl (hb hby at_116) rfl  k)
  show Goes p e below _ (sF T0 m 118 #[iv p1, iv p2, iv p3, iv p4, iv p5, iv p6, iv (5 : Int32), iv b0, iv b1, iv b2, iv b3, iv b4, .unset, .unset, .unset, .unset, .unset, .unset, .unset, .unset, .unset, .unset] [(.int (5 : Int32))])
  refine Goes.step ?_ (fun _ k => XS.iconst X0.here hx rfl (hb hby at_118) k)
  show Goes p e below _ (sF T0 m 119 #[iv p1, iv p2, iv p3, iv p4, iv p5, iv p6, iv (5 : Int32), iv b0, iv b1, iv b2, iv b3, iv b4, .unset, .unset, .unset, .unset, .unset, .unset, .unset, .unset, .unset, .unset] [(.int (4 : Int32)), (.int (5 : Int32))])
  refine Goes.step ?_ (fun _ k => XS.icmpYes X0.here hx rfl (pc0 := 119) (pc' := 150) rfl (hb hby at_119) rfl (feq (by decide : ¬ ((5 : Int32) = (4 : Int32)))).2 (by decide) (by decide) k)
  show Goes p e below _ (sF T0 m 150 #[iv p1, iv p2, iv p3, iv p4, iv p5, iv p6, iv (5 : Int32), iv b0, iv b1, iv b2, iv b3, iv b4, .unset, .unset, .unset, .unset, .unset, .unset, .unset, .unset, .unset, .unset] [])
  refine Goes.step ?_ (fun _ k => XS.iconst X0.here hx rfl (hb hby at_150) k)
  show Goes p e below _ (sF T0 m 151 #[iv p1, iv p2, iv p3, iv p4, iv p5, iv p6, iv (5 : Int32), iv b0, iv b1, iv b2, iv b3, iv b4, .unset, .unset, .unset, .unset, .unset, .unset, .unset, .unset, .unset, .unset] [(.int (5 : Int32))])
  obtain ⟨T1, h1, k1, X1, e1, E1, A1, st1⟩ := newP X0 hx hZ (hw _ (List.mem_of_getElem? (i := 1) rfl)) e0 (g := (mkF m 151 #[iv p1, iv p2, iv p3, iv p4, iv p5, iv p6, iv (5 : Int32), iv b0, iv b1, iv b2, iv b3, iv b4, .unset, .unset, .unset, .unset, .unset, .unset, .unset, .unset, .unset, .unset] [(.int (5 : Int32))])) rfl (hb hby at_151) rfl (by decide) (cap := 5) (by decide) (by decide) (by decide) (by decide)
  obtain ⟨ob1, g1⟩ : ∃ z, z = h0.size := ⟨_, rfl⟩
  rw [← g1] at A1 st1
  have g_ob1 : n0 ≤ ob1 := Nat.le_trans Z0 (Nat.le_of_eq g1.symm)
  have Zs1 : n0 ≤ h1.size := Nat.le_trans Z0 E1.1
  refine Goes.step ?_ st1
  have V_ob1 : Arv Z h1 ob1 k1 .byte (5 : Int32) [(.int (0 : Int32)), (.int (0 : Int32)), (.int (0 : Int32)), (.int (0 : Int32)), (.int (0 : Int32))] (.int (0 : Int32)) := (Arv.new A1 (by decide)).pad (pad_rep [] (.int (0 : Int32)) 5)
  show Goes p e below _ (sF T1 m 153 #[iv p1, iv p2, iv p3, iv p4, iv p5, iv p6, iv (5 : Int32), iv b0, iv b1, iv b2, iv b3, iv b4, .unset, .unset, .unset, .unset, .unset, .unset, .unset, .unset, .unset, .unset] [(.ref ob1)])
  refine Goes.step ?_ (fun _ k => XS.dup X1.here hx rfl (hb hby at_153) rfl rfl k)
  show Goes p e below _ (sF T1 m 154 #[iv p1, iv p2, iv p3, iv p4, iv p5, iv p6, iv (5 : Int32), iv b0, iv b1, iv b2, iv b3, iv b4, .unset, .unset, .unset, .unset, .unset, .unset, .unset, .unset, .unset, .unset] [(.ref ob1), (.ref ob1)])
  refine Goes.step ?_ (fun _ k => XS.iconst X1.here hx rfl (hb hby at_154) k)
  show Goes p e below _ (sF T1 m 155 #[iv p1, iv p2, iv p3, iv p4, iv p5, iv p6, iv (5 : Int32), iv b0, iv b1, iv b2, iv b3, iv b4, .unset, .unset, .unset, .unset, .unset, .unset, .unset, .unset, .unset, .unset] [(.int (0 : Int32)), (.ref ob1), (.ref ob1)])
  refine Goes.step ?_ (fun _ k => XS.iload X1.here hx rfl (hb hby at_155) rfl  k)
  show Goes p e below _ (sF T1 m 157 #[iv p1, iv p2, iv p3, iv p4, iv p5, iv p6, iv (5 : Int32), iv b0, iv b1, iv b2, iv b3, iv b4, .unset, .unset, .unset, .unset, .unset, .unset, .unset, .unset, .unset, .unset] [(.int b0), (.int (0 : Int32)), (.ref ob1), (.ref ob1)])
  obtain ⟨cl2, Ar2, q2, S2, N_2, H2, G2⟩ := id V_ob1
  have hin3 : ¬ ((0 : Int32) < 0 ∨ cl2.slots.size ≤ ((0 : Int32)).toNatClampNeg) := inb_of S2 ⟨by decide, by decide⟩
  obtain ⟨T3, h3, X3, e3, W3, st3⟩ := stB X1 hx hZ e1 Ar2 (j := (0 : Int32)) hin3 (g := (mkF m 157 #[iv p1, iv p2, iv p3, iv p4, iv p5, iv p6, iv (5 : Int32), iv b0, iv b1, iv b2, iv b3, iv b4, .unset, .unset, .unset, .unset, .unset, .unset, .unset, .unset, .unset, .unset] [(.int b0), (.int (0 : Int32)), (.ref ob1), (.ref ob1)])) rfl rfl (hb hby at_157)
  have V0_3 : Arv Z h3 ob1 k1 .byte (5 : Int32) [(.int (b0.toInt8.toInt32)), (.int (0 : Int32)), (.int (0 : Int32)), (.int (0 : Int32)), (.int (0 : Int32))] (.int (0 : Int32)) := Arv.set Ar2 q2 S2 N_2 H2 G2 (fits_nar_byte _) W3 0 rfl (Nat.le_of_ble_eq_true rfl)
  have V_3 : Arv Z h3 ob1 k1 .byte (5 : Int32) [(.int b0), (.int (0 : Int32)), (.int (0 : Int32)), (.int (0 : Int32)), (.int (0 : Int32))] (.int (0 : Int32)) := by rw [hb0] at V0_3; exact V0_3
  have Zs3 : n0 ≤ h3.size := Nat.le_trans Zs1 (Keep.of_wr W3).1
  have N3 := Fr.snoc X3 N0 g_ob1
  refine Goes.step ?_ st3
  show Goes p e below _ (sF T3 m 158 #[iv p1, iv p2, iv p3, iv p4, iv p5, iv p6, iv (5 : Int32), iv b0, iv b1, iv b2, iv b3, iv b4, .unset, .unset, .unset, .unset, .unset, .unset, .unset, .unset, .unset, .unset] [(.ref ob1)])
  refine Goes.step ?_ (fun _ k => XS.dup X3.here hx rfl (hb hby at_158) rfl rfl k)
  show Goes p e below _ (sF T3 m 159 #[iv p1, iv p2, iv p3, iv p4, iv p5, iv p6, iv (5 : Int32), iv b0, iv b1, iv b2, iv b3, iv b4, .unset, .unset, .unset, .unset, .unset, .unset, .unset, .unset, .unset, .unset] [(.ref ob1), (.ref ob1)])
  refine Goes.step ?_ (fun _ k => XS.iconst X3.here hx rfl (hb hby at_159) k)
  show Goes p e below _ (sF T3 m 160 #[iv p1, iv p2, iv p3, iv p4, iv p5, iv p6, iv (5 : Int32), iv b0, iv b1, iv b2, iv b3, iv b4, .unset, .unset, .unset, .unset, .unset, .unset, .unset, .unset, .unset, .unset] [(.int (1 : Int32)), (.ref ob1), (.ref ob1)])
  refine Goes.step ?_ (fun _ k => XS.iload X3.here hx rfl (hb hby at_160) rfl  k)
  show Goes p e below _ (sF T3 m 162 #[iv p1, iv p2, iv p3, iv p4, iv p5, iv p6, iv (5 : Int32), iv b0, iv b1, iv b2, iv b3, iv b4, .unset, .unset, .unset, .unset, .unset, .unset, .unset, .unset, .unset, .unset] [(.int b1), (.int (1 : Int32)), (.ref ob1), (.ref ob1)])
  obtain ⟨cl4, Ar4, q4, S4, N_4, H4, G4⟩ := id V_3
  have hin5 : ¬ ((1 : Int32) < 0 ∨ cl4.slots.size ≤ ((1 : Int32)).toNatClampNeg) := inb_of S4 ⟨by decide, by decide⟩
  obtain ⟨T5, h5, X5, e5, W5, st5⟩ := stB X3 hx hZ e3 Ar4 (j := (1 : Int32)) hin5 (g := (mkF m 162 #[iv p1, iv p2, iv p3, iv p4, iv p5, iv p6, iv (5 : Int32), iv b0, iv b1, iv b2, iv b3, iv b4, .unset, .unset, .unset, .unset, .unset, .unset, .unset, .unset, .unset, .unset] [(.int b1), (.int (1 : Int32)), (.ref ob1), (.ref ob1)])) rfl rfl (hb hby at_162)
  have V0_5 : Arv Z h5 ob1 k1 .byte (5 : Int32) [(.int b0), (.int (b1.toInt8.toInt32)), (.int (0 : Int32)), (.int (0 : Int32)), (.int (0 : Int32))] (.int (0 : Int32)) := Arv.set Ar4 q4 S4 N_4 H4 G4 (fits_nar_byte _) W5 1 rfl (Nat.le_of_ble_eq_true rfl)
  have V_5 : Arv Z h5 ob1 k1 .byte (5 : Int32) [(.int b0), (.int b1), (.int (0 : Int32)), (.int (0 : Int32)), (.int (0 : Int32))] (.int (0 : Int32)) := by rw [hb1] at V0_5; exact V0_5
  have Zs5 : n0 ≤ h5.size := Nat.le_trans Zs3 (Keep.of_wr W5).1
  have N5 := Fr.snoc X5 N3 g_ob1
  refine Goes.step ?_ st5
  show Goes p e below _ (sF T5 m 163 #[iv p1, iv p2, iv p3, iv p4, iv p5, iv p6, iv (5 : Int32), iv b0, iv b1, iv b2, iv b3, iv b4, .unset, .unset, .unset, .unset, .unset, .unset, .unset, .unset, .unset, .unset] [(.ref ob1)])
  refine Goes.step ?_ (fun _ k => XS.dup X5.here hx rfl (hb hby at_163) rfl rfl k)
  show Goes p e below _ (sF T5 m 164 #[iv p1, iv p2, iv p3, iv p4, iv p5, iv p6, iv (5 : Int32), iv b0, iv b1, iv b2, iv b3, iv b4, .unset, .unset, .unset, .unset, .unset, .unset, .unset, .unset, .unset, .unset] [(.ref ob1), (.ref ob1)])
  refine Goes.step ?_ (fun _ k => XS.iconst X5.here hx rfl (hb hby at_164) k)
  show Goes p e below _ (sF T5 m 165 #[iv p1, iv p2, iv p3, iv p4, iv p5, iv p6, iv (5 : Int32), iv b0, iv b1, iv b2, iv b3, iv b4, .unset, .unset, .unset, .unset, .unset, .unset, .unset, .unset, .unset, .unset] [(.int (2 : Int32)), (.ref ob1), (.ref ob1)])
  refine Goes.step ?_ (fun _ k => XS.iload X5.here hx rfl (hb hby at_165) rfl  k)
  show Goes p e below _ (sF T5 m 167 #[iv p1, iv p2, iv p3, iv p4, iv p5, iv p6, iv (5 : Int32), iv b0, iv b1, iv b2, iv b3, iv b4, .unset, .unset, .unset, .unset, .unset, .unset, .unset, .unset, .unset, .unset] [(.int b2), (.int (2 : Int32)), (.ref ob1), (.ref ob1)])
  obtain ⟨cl6, Ar6, q6, S6, N_6, H6, G6⟩ := id V_5
  have hin7 : ¬ ((2 : Int32) < 0 ∨ cl6.slots.size ≤ ((2 : Int32)).toNatClampNeg) := inb_of S6 ⟨by decide, by decide⟩
  obtain ⟨T7, h7, X7, e7, W7, st7⟩ := stB X5 hx hZ e5 Ar6 (j := (2 : Int32)) hin7 (g := (mkF m 167 #[iv p1, iv p2, iv p3, iv p4, iv p5, iv p6, iv (5 : Int32), iv b0, iv b1, iv b2, iv b3, iv b4, .unset, .unset, .unset, .unset, .unset, .unset, .unset, .unset, .unset, .unset] [(.int b2), (.int (2 : Int32)), (.ref ob1), (.ref ob1)])) rfl rfl (hb hby at_167)
  have V0_7 : Arv Z h7 ob1 k1 .byte (5 : Int32) [(.int b0), (.int b1), (.int (b2.toInt8.toInt32)), (.int (0 : Int32)), (.int (0 : Int32))] (.int (0 : Int32)) := Arv.set Ar6 q6 S6 N_6 H6 G6 (fits_nar_byte _) W7 2 rfl (Nat.le_of_ble_eq_true rfl)
  have V_7 : Arv Z h7 ob1 k1 .byte (5 : Int32) [(.int b0), (.int b1), (.int b2), (.int (0 : Int32)), (.int (0 : Int32))] (.int (0 : Int32)) := by rw [hb2] at V0_7; exact V0_7
  have Zs7 : n0 ≤ h7.size := Nat.le_trans Zs5 (Keep.of_wr W7).1
  have N7 := Fr.snoc X7 N5 g_ob1
  refine Goes.step ?_ st7
  show Goes p e below _ (sF T7 m 168 #[iv p1, iv p2, iv p3, iv p4, iv p5, iv p6, iv (5 : Int32), iv b0, iv b1, iv b2, iv b3, iv b4, .unset, .unset, .unset, .unset, .unset, .unset, .unset, .unset, .unset, .unset] [(.ref ob1)])
  refine Goes.step ?_ (fun _ k => XS.dup X7.here hx rfl (hb hby at_168) rfl rfl k)
  show Goes p e below _ (sF T7 m 169 #[iv p1, iv p2, iv p3, iv p4, iv p5, iv p6, iv (5 : Int32), iv b0, iv b1, iv b2, iv b3, iv b4, .unset, .unset, .unset, .unset, .unset, .unset, .unset, .unset, .unset, .unset] [(.ref ob1), (.ref ob1)])
  refine Goes.step ?_ (fun _ k => XS.iconst X7.here hx rfl (hb hby at_169) k)
  show Goes p e below _ (sF T7 m 170 #[iv p1, iv p2, iv p3, iv p4, iv p5, iv p6, iv (5 : Int32), iv b0, iv b1, iv b2, iv b3, iv b4, .unset, .unset, .unset, .unset, .unset, .unset, .unset, .unset, .unset, .unset] [(.int (3 : Int32)), (.ref ob1), (.ref ob1)])
  refine Goes.step ?_ (fun _ k => XS.iload X7.here hx rfl (hb hby at_170) rfl  k)
  show Goes p e below _ (sF T7 m 172 #[iv p1, iv p2, iv p3, iv p4, iv p5, iv p6, iv (5 : Int32), iv b0, iv b1, iv b2, iv b3, iv b4, .unset, .unset, .unset, .unset, .unset, .unset, .unset, .unset, .unset, .unset] [(.int b3), (.int (3 : Int32)), (.ref ob1), (.ref ob1)])
  obtain ⟨cl8, Ar8, q8, S8, N_8, H8, G8⟩ := id V_7
  have hin9 : ¬ ((3 : Int32) < 0 ∨ cl8.slots.size ≤ ((3 : Int32)).toNatClampNeg) := inb_of S8 ⟨by decide, by decide⟩
  obtain ⟨T9, h9, X9, e9, W9, st9⟩ := stB X7 hx hZ e7 Ar8 (j := (3 : Int32)) hin9 (g := (mkF m 172 #[iv p1, iv p2, iv p3, iv p4, iv p5, iv p6, iv (5 : Int32), iv b0, iv b1, iv b2, iv b3, iv b4, .unset, .unset, .unset, .unset, .unset, .unset, .unset, .unset, .unset, .unset] [(.int b3), (.int (3 : Int32)), (.ref ob1), (.ref ob1)])) rfl rfl (hb hby at_172)
  have V0_9 : Arv Z h9 ob1 k1 .byte (5 : Int32) [(.int b0), (.int b1), (.int b2), (.int (b3.toInt8.toInt32)), (.int (0 : Int32))] (.int (0 : Int32)) := Arv.set Ar8 q8 S8 N_8 H8 G8 (fits_nar_byte _) W9 3 rfl (Nat.le_of_ble_eq_true rfl)
  have V_9 : Arv Z h9 ob1 k1 .byte (5 : Int32) [(.int b0), (.int b1), (.int b2), (.int b3), (.int (0 : Int32))] (.int (0 : Int32)) := by rw [hb3] at V0_9; exact V0_9
  have Zs9 : n0 ≤ h9.size := Nat.le_trans Zs7 (Keep.of_wr W9).1
  have N9 := Fr.snoc X9 N7 g_ob1
  refine Goes.step ?_ st9
  show Goes p e below _ (sF T9 m 173 #[iv p1, iv p2, iv p3, iv p4, iv p5, iv p6, iv (5 : Int32), iv b0, iv b1, iv b2, iv b3, iv b4, .unset, .unset, .unset, .unset, .unset, .unset, .unset, .unset, .unset, .unset] [(.ref ob1)])
  refine Goes.step ?_ (fun _ k => XS.dup X9.here hx rfl (hb hby at_173) rfl rfl k)
  show Goes p e below _ (sF T9 m 174 #[iv p1, iv p2, iv p3, iv p4, iv p5, iv p6, iv (5 : Int32), iv b0, iv b1, iv b2, iv b3, iv b4, .unset, .unset, .unset, .unset, .unset, .unset, .unset, .unset, .unset, .unset] [(.ref ob1), (.ref ob1)])
  refine Goes.step ?_ (fun _ k => XS.iconst X9.here hx rfl (hb hby at_174) k)
  show Goes p e below _ (sF T9 m 175 #[iv p1, iv p2, iv p3, iv p4, iv p5, iv p6, iv (5 : Int32), iv b0, iv b1, iv b2, iv b3, iv b4, .unset, .unset, .unset, .unset, .unset, .unset, .unset, .unset, .unset, .unset] [(.int (4 : Int32)), (.ref ob1), (.ref ob1)])
  refine Goes.step ?_ (fun _ k => XS.iload X9.here hx rfl (hb hby at_175) rfl  k)
  show Goes p e below _ (sF T9 m 177 #[iv p1, iv p2, iv p3, iv p4, iv p5, iv p6, iv (5 : Int32), iv b0, iv b1, iv b2, iv b3, iv b4, .unset, .unset, .unset, .unset, .unset, .unset, .unset, .unset, .unset, .unset] [(.int b4), (.int (4 : Int32)), (.ref ob1), (.ref ob1)])
  obtain ⟨cl10, Ar10, q10, S10, N_10, H10, G10⟩ := id V_9
  have hin11 : ¬ ((4 : Int32) < 0 ∨ cl10.slots.size ≤ ((4 : Int32)).toNatClampNeg) := inb_of S10 ⟨by decide, by decide⟩
  obtain ⟨T11, h11, X11, e11, W11, st11⟩ := stB X9 hx hZ e9 Ar10 (j := (4 : Int32)) hin11 (g := (mkF m 177 #[iv p1, iv p2, iv p3, iv p4, iv p5, iv p6, iv (5 : Int32), iv b0, iv b1, iv b2, iv b3, iv b4, .unset, .unset, .unset, .unset, .unset, .unset, .unset, .unset, .unset, .unset] [(.int b4), (.int (4 : Int32)), (.ref ob1), (.ref ob1)])) rfl rfl (hb hby at_177)
  have V0_11 : Arv Z h11 ob1 k1 .byte (5 : Int32) [(.int b0), (.int b1), (.int b2), (.int b3), (.int (b4.toInt8.toInt32))] (.int (0 : Int32)) := Arv.set Ar10 q10 S10 N_10 H10 G10 (fits_nar_byte _) W11 4 rfl (Nat.le_of_ble_eq_true rfl)
  have V_11 : Arv Z h11 ob1 k1 .byte (5 : Int32) [(.int b0), (.int b1), (.int b2), (.int b3), (.int b4)] (.int (0 : Int32)) := by rw [hb4] at V0_11; exact V0_11
  have Zs11 : n0 ≤ h11.size := Nat.le_trans Zs9 (Keep.of_wr W11).1
  have N11 := Fr.snoc X11 N9 g_ob1
  refine Goes.step ?_ st11
  show Goes p e below _ (sF T11 m 178 #[iv p1, iv p2, iv p3, iv p4, iv p5, iv p6, iv (5 : Int32), iv b0, iv b1, iv b2, iv b3, iv b4, .unset, .unset, .unset, .unset, .unset, .unset, .unset, .unset, .unset, .unset] [(.ref ob1)])
  refine Goes.step ?_ (fun _ k => XS.astore X11.here hx rfl (hb hby at_178) rfl rfl (l' := #[iv p1, iv p2, iv p3, iv p4, iv p5, iv p6, iv (5 : Int32), iv b0, iv b1, iv b2, iv b3, iv b4, rv ob1, .unset, .unset, .unset, .unset, .unset, .unset, .unset, .unset, .unset]) rfl k)
  show Goes p e below _ (sF T11 m 180 #[iv p1, iv p2, iv p3, iv p4, iv p5, iv p6, iv (5 : Int32), iv b0, iv b1, iv b2, iv b3, iv b4, rv ob1, .unset, .unset, .unset, .unset, .unset, .unset, .unset, .unset, .unset] [])
  obtain ⟨T12, h12, X12, e12, E12, A12, D12, -, st12⟩ := newO X11 hx hZ hown (hw _ (List.mem_of_getElem? (i := 2) rfl)) (hw _ (List.mem_of_getElem? (i := 3) rfl)) (hw _ (List.mem_of_getElem? (i := 4) rfl)) e11 (g := (mkF m 180 #[iv p1, iv p2, iv p3, iv p4, iv p5, iv p6, iv (5 : Int32), iv b0, iv b1, iv b2, iv b3, iv b4, rv ob1, .unset, .unset, .unset, .unset, .unset, .unset, .unset, .unset, .unset] [])) rfl (hb hby at_180) (by decide) (by decide)
  obtain ⟨ob12, g12⟩ : ∃ z, z = h11.size := ⟨_, rfl⟩
  rw [← g12] at A12 D12 st12
  have g_ob12 : n0 ≤ ob12 := Nat.le_trans Zs11 (Nat.le_of_eq g12.symm)
  have ne_ob1_ob12 : ob1 ≠ ob12 := Nat.ne_of_lt (Nat.lt_of_lt_of_le V_11.lt (Nat.le_of_eq g12.symm))
  have Zs12 : n0 ≤ h12.size := Nat.le_trans Zs11 E12.1
  refine Goes.step ?_ st12
  have F_count_ob12 : Fld Z h12 ob12 "com/example/borderline/borderline/Comparisons" "count" "J" (.long (0 : Int64)) := D12 (Or.inl (hw _ (List.mem_of_getElem? (i := 22) rfl))) (ty := .long) (by decide)
  show Goes p e below _ (sF T12 m 183 #[iv p1, iv p2, iv p3, iv p4, iv p5, iv p6, iv (5 : Int32), iv b0, iv b1, iv b2, iv b3, iv b4, rv ob1, .unset, .unset, .unset, .unset, .unset, .unset, .unset, .unset, .unset] [(.ref ob12)])
  refine Goes.step ?_ (fun _ k => XS.dup X12.here hx rfl (hb hby at_183) rfl rfl k)
  show Goes p e below _ (sF T12 m 184 #[iv p1, iv p2, iv p3, iv p4, iv p5, iv p6, iv (5 : Int32), iv b0, iv b1, iv b2, iv b3, iv b4, rv ob1, .unset, .unset, .unset, .unset, .unset, .unset, .unset, .unset, .unset] [(.ref ob12), (.ref ob12)])
  obtain ⟨_, _, ⟨T13, L13, k13, n13⟩, -, X13, ⟨Lc13, hQ13, l13, y13, z13⟩, st13⟩ := X12.specialBack hx (y := (⟨"com/example/borderline/borderline/Comparisons", "<init>", "()V"⟩ : MethodName)) rfl hown (mvT hZ (hw _ (List.mem_of_getElem? (i := 5) rfl))) (mvT hZ (hw _ (List.mem_of_getElem? (i := 6) rfl))) (mvT hZ (hw _ (List.mem_of_getElem? (i := 7) rfl))) (by decide) (backOf (W := 1) (rmNew l Z a0 hw [] ob12  h12 n0 Zs12 ) hZ (hw _ (List.mem_of_getElem? (i := 7) rfl)) (hw _ (List.mem_of_getElem? (i := 4) rfl)) (by decide) (by decide)) (g := (mkF m 184 #[iv p1, iv p2, iv p3, iv p4, iv p5, iv p6, iv (5 : Int32), iv b0, iv b1, iv b2, iv b3, iv b4, rv ob1, .unset, .unset, .unset, .unset, .unset, .unset, .unset, .unset, .unset] [(.ref ob12), (.ref ob12)])) rfl (by rw [hml]; rfl) (Steps.refl _) (a := ob12) (argsL := []) (rest := [(.ref ob12)]) (lenOf pd__28_29V rfl) rfl (by show 2 * 0 + _ ≤ _; exact Nat.le_of_eq rfl) (hb hby at_184) (fun _ _ => ⟨rfl, e12, (by decide : 0 + 1 + 1 + 0 ≤ _), (by decide : 0 + 5 + 1 + 0 ≤ _)⟩)
  dsimp only [Pt.U, Pt.locs, Pt.cells, Pt.slots] at X13 l13 y13 z13 st13 hQ13
  subst l13 y13 z13
  obtain ⟨rfl, N13q, e13⟩ := hQ13
  have N13 := Fr.app N11 N13q
  refine Goes.step ?_ (fun _ k => st13.trans k)
  show Goes p e below _ (sF T13 m 187 #[iv p1, iv p2, iv p3, iv p4, iv p5, iv p6, iv (5 : Int32), iv b0, iv b1, iv b2, iv b3, iv b4, rv ob1, .unset, .unset, .unset, .unset, .unset, .unset, .unset, .unset, .unset] [(.ref ob12)])
  refine Goes.step ?_ (fun _ k => XS.astore X13.here hx rfl (hb hby at_187) rfl rfl (l' := #[iv p1, iv p2, iv p3, iv p4, iv p5, iv p6, iv (5 : Int32), iv b0, iv b1, iv b2, iv b3, iv b4, rv ob1, rv ob12, .unset, .unset, .unset, .unset, .unset, .unset, .unset, .unset]) rfl k)
  show Goes p e below _ (sF T13 m 189 #[iv p1, iv p2, iv p3, iv p4, iv p5, iv p6, iv (5 : Int32), iv b0, iv b1, iv b2, iv b3, iv b4, rv ob1, rv ob12, .unset, .unset, .unset, .unset, .unset, .unset, .unset, .unset] [])
  refine Goes.step ?_ (fun _ k => XS.aload X13.here hx rfl (hb hby at_189) rfl rfl k)
  show Goes p e below _ (sF T13 m 191 #[iv p1, iv p2, iv p3, iv p4, iv p5, iv p6, iv (5 : Int32), iv b0, iv b1, iv b2, iv b3, iv b4, rv ob1, rv ob12, .unset, .unset, .unset, .unset, .unset, .unset, .unset, .unset] [(.ref ob1)])
  refine Goes.step ?_ (fun _ k => XS.aload X13.here hx rfl (hb hby at_191) rfl rfl k)
  show Goes p e below _ (sF T13 m 193 #[iv p1, iv p2, iv p3, iv p4, iv p5, iv p6, iv (5 : Int32), iv b0, iv b1, iv b2, iv b3, iv b4, rv ob1, rv ob12, .unset, .unset, .unset, .unset, .unset, .unset, .unset, .unset] [(.ref ob12), (.ref ob1)])
  have V_ob1_14 := (V_11.ext E12)
  obtain ⟨_, _, ⟨T15, L15, k15, n15⟩, -, X15, ⟨Lc15, hQ15, l15, y15, z15⟩, st15⟩ := Jvm.LawKit.callS X13 hx (y := (⟨"com/example/borderline/borderline/BorderTable", "shifted", "([BLcom/example/borderline/borderline/Comparisons;)[I"⟩ : MethodName)) hown (mvT hZ (hw _ (List.mem_of_getElem? (i := 11) rfl))) (mvT hZ (hw _ (List.mem_of_getElem? (i := 12) rfl))) (mvT hZ (hw _ (List.mem_of_getElem? (i := 13) rfl))) (mvT hZ (hw _ (List.mem_of_getElem? (i := 14) rfl))) (by decide) (own_backH (W := 0) (rmSh5 l Z a0 hw [] ob1 ob12 cK one k1 b0 b1 b2 b3 b4 h12 n0 Zs12 hSame hLam V_ob1_14 F_count_ob12 A12 g_ob12) hZH (hw _ (List.mem_of_getElem? (i := 14) rfl)) (hw _ (List.mem_of_getElem? (i := 13) rfl)) (by decide) (by decide)) (g := (mkF m 193 #[iv p1, iv p2, iv p3, iv p4, iv p5, iv p6, iv (5 : Int32), iv b0, iv b1, iv b2, iv b3, iv b4, rv ob1, rv ob12, .unset, .unset, .unset, .unset, .unset, .unset, .unset, .unset] [(.ref ob12), (.ref ob1)])) rfl (by rw [hml]; rfl) (argsL := [(.ref ob1), (.ref ob12)]) (rest := []) (lenOf pd__28_5bBLcom_2fexample_2fborderline_2fborderline_2fComparisons_3b_29_5bI rfl) rfl (by show 2 * 0 + _ ≤ _; exact Nat.le_of_eq rfl) (hb hby at_193) (fun _ _ => ⟨rfl, e13, (by decide : 0 + 1 + 1 + 2 ≤ _), (by decide : 0 + 5 + 1 + 6 ≤ _)⟩)
  dsimp only [Pt.U, Pt.locs, Pt.cells, Pt.slots] at X15 l15 y15 z15 st15 hQ15
  subst l15 y15 z15
  obtain ⟨u15, ku15, q15, rfl, N15q, K15, gu15, Vu15, G15, l115, l215⟩ := hQ15
  have N15 := Fr.app N13 N15q
  refine Goes.step ?_ st15
  have g_u15 : n0 ≤ u15 := Nat.le_trans Zs12 gu15
  have ne_ob1_u15 : ob1 ≠ u15 := Nat.ne_of_lt (Nat.lt_of_lt_of_le V_ob1_14.lt gu15)
  have ne_ob12_u15 : ob12 ≠ u15 := Nat.ne_of_lt (Nat.lt_of_lt_of_le A12.lt gu15)
  have Zs15 : n0 ≤ T15.heap.size := Nat.le_trans Zs12 K15.1
  show Goes p e below _ (sF T15 m 196 #[iv p1, iv p2, iv p3, iv p4, iv p5, iv p6, iv (5 : Int32), iv b0, iv b1, iv b2, iv b3, iv b4, rv ob1, rv ob12, .unset, .unset, .unset, .unset, .unset, .unset, .unset, .unset] [(.ref u15)])
  refine Goes.step ?_ (fun _ k => XS.astore X15.here hx rfl (hb hby at_196) rfl rfl (l' := #[iv p1, iv p2, iv p3, iv p4, iv p5, iv p6, iv (5 : Int32), iv b0, iv b1, iv b2, iv b3, iv b4, rv ob1, rv ob12, rv u15, .unset, .unset, .unset, .unset, .unset, .unset, .unset]) rfl k)
  show Goes p e below _ (sF T15 m 198 #[iv p1, iv p2, iv p3, iv p4, iv p5, iv p6, iv (5 : Int32), iv b0, iv b1, iv b2, iv b3, iv b4, rv ob1, rv ob12, rv u15, .unset, .unset, .unset, .unset, .unset, .unset, .unset] [])
  refine Goes.step ?_ (fun _ k => XS.aload X15.here hx rfl (hb hby at_198) rfl rfl k)
  show Goes p e below _ (sF T15 m 200 #[iv p1, iv p2, iv p3, iv p4, iv p5, iv p6, iv (5 : Int32), iv b0, iv b1, iv b2, iv b3, iv b4, rv ob1, rv ob12, rv u15, .unset, .unset, .unset, .unset, .unset, .unset, .unset] [(.ref u15)])
  obtain ⟨cl16, Ar16, q16, S16, N_16, H16, G16⟩ := id Vu15
  refine Goes.step ?_ (fun _ k => X15.arraylength hx Ar16.1 (State.isArrayOf_alike hZ.alike Ar16.2.1) (g := (mkF m 200 #[iv p1, iv p2, iv p3, iv p4, iv p5, iv p6, iv (5 : Int32), iv b0, iv b1, iv b2, iv b3, iv b4, rv ob1, rv ob12, rv u15, .unset, .unset, .unset, .unset, .unset, .unset, .unset] [(.ref u15)])) rfl rfl (hb hby at_200) _ k)
  rw [len_of S16 N_16]
  show Goes p e below _ (sF T15 m 201 #[iv p1, iv p2, iv p3, iv p4, iv p5, iv p6, iv (5 : Int32), iv b0, iv b1, iv b2, iv b3, iv b4, rv ob1, rv ob12, rv u15, .unset, .unset, .unset, .unset, .unset, .unset, .unset] [(.int (5 : Int32))])
  refine Goes.step ?_ (fun _ k => XS.iload X15.here hx rfl (hb hby at_201) rfl  k)
  show Goes p e below _ (sF T15 m 203 #[iv p1, iv p2, iv p3, iv p4, iv p5, iv p6, iv (5 : Int32), iv b0, iv b1, iv b2, iv b3, iv b4, rv ob1, rv ob12, rv u15, .unset, .unset, .unset, .unset, .unset, .unset, .unset] [(.int (5 : Int32)), (.int (5 : Int32))])
  refine Goes.step ?_ (fun _ k => XS.icmpYes X15.here hx rfl (pc0 := 203) (pc' := 208) rfl (hb hby at_203) rfl (teq (by decide : (5 : Int32) = (5 : Int32))).1 (by decide) (by decide) k)
  show Goes p e below _ (sF T15 m 208 #[iv p1, iv p2, iv p3, iv p4, iv p5, iv p6, iv (5 : Int32), iv b0, iv b1, iv b2, iv b3, iv b4, rv ob1, rv ob12, rv u15, .unset, .unset, .unset, .unset, .unset, .unset, .unset] [])
  have V_ob1_17 := (V_ob1_14.keep K15 (ninS ne_ob1_ob12 nin0))
  have E_ob12_18 := (A12.keep K15)
  exact tail208 p1 p2 p3 p4 p5 p6 (5 : Int32) b0 b1 b2 b3 b4 ob1 ob12 u15 k1 ku15 _ _ q15 (X15.mono (by decide) (by decide)) hx hZ hw hby hlk hret hml hown rfl N15 Zs15 V_ob1_17 Vu15 G15 E_ob12_18 (fun _ => rfl) (fun _ => rfl) (fun _ => rfl) (fun _ => rfl) (fun _ => rfl) (fun _ => rfl) (fun _ => rfl) (fun _ => rfl) (fun _ => rfl) (fun _ => rfl) (by rw [show maxV ((5 : Int32) - (2 : Int32)) (0 : Int32) = (3 : Int32) from by decide]; exact l115) (by rw [show maxV (((2 : Int32) * (5 : Int32)) - (4 : Int32)) (0 : Int32) = (6 : Int32) from by decide]; exact l215)
theorem ef_rm0 (m : MethodId) (x0 : Int32) (x1 : Int32) (x2 : Int32) (x3 : Int32) (x4 : Int32) (x5 : Int32) : entryFrame m #[(.int x0), (.int x1), (.int x2), (.int x3), (.int x4), (.int x5)] maxLocals = mkF m 0 #[iv x0, iv x1, iv x2, iv x3, iv x4, iv x5, .unset, .unset, .unset, .unset, .unset, .unset, .unset, .unset, .unset, .unset, .unset, .unset, .unset, .unset, .unset, .unset] [] := by first | (simp [entryFrame, mkF, argsToLocals, Value.category, maxLocals]; done) | rfl
set_option maxRecDepth 65536 in
set_option maxHeartbeats 40000000 in
theorem rm0 (l : Launch) (Z : State) (a0 : Array Value) (hw : ∀ d ∈ tables_1, d.before a0 Z = true) (ws : List Jvm.Cond) (p1 : Int32) (p2 : Int32) (p3 : Int32) (p4 : Int32) (p5 : Int32) (p6 : Int32) (cK : ClassId) (one : Option Addr) (h0 : Heap) (n0 : Nat) (Z0 : n0 ≤ h0.size) (hSame : Z.sameButNew Z [] 0 0) (hLam : Z.lambdaAt? symN 1 30 sgm = some (cK, one)) :
    MetFree l x (head1 (Jvm.Cond.code x code maxLocals ret :: ws) room_1) (fun a U => a = #[(.int p1), (.int p2), (.int p3), (.int p4), (.int p5), (.int p6)] ∧ Z.WarmedH U.vm ∧ U.heap = h0) (fun _ _ _ _ _ => True) (fun _ U o U' => ∃ v L, o = .returned v ∧ Q0 n0 v U'.heap L ∧ FrameEnd U o U' L room_1.cells room_1.slots) := by
  refine MetFree.of_bodySF (plainFor_of_name pn_com_example_borderline_borderline_BorderTableShiftedPinLaw) hisR ?_
  intro p e s m args below meth c s₁ Bd hml0 hP hK
  obtain ⟨rfl, hZH, hh⟩ := hP
  have hZ : Z.Warmed39 s.vm := hZH.wide
  have hx := Bd.exec
  have hby := Bd.bytes
  have hlk : meth.locks = false := BodyLoose.notSynchronized Bd
  have hml : c.maxLocals = 22 := hml0
  have hown : s.vm.findClass "com/example/borderline/borderline/BorderTableShiftedPinLaw" = some m.cls := findClass_of_methodNamed Bd.named
  have hnm := (name_of_methodNamed Bd.named Bd.method).1
  have X0 : Stand p l e room_1 s m #[(.int p1), (.int p2), (.int p3), (.int p4), (.int p5), (.int p6)] below meth c s₁ [] 0 0 := Stand.of_body Bd
  have e0 : s₁.heap = h0 := by rw [← hh, Bd.state]; rfl
  have N0 := Fr.nil n0
  have hret := Bd.returns
  show Goes p e below (fun o U' => ∃ v L, o = .returned v ∧ Q0 n0 v U'.heap L ∧ FrameEnd s o U' L room_1.cells room_1.slots) (s₁.setTop (entryFrame m #[(.int p1), (.int p2), (.int p3), (.int p4), (.int p5), (.int p6)] maxLocals))
  refine Goes.step ?_ (fun _ k => castTop (ef_rm0 m p1 p2 p3 p4 p5 p6) k)
  show Goes p e below _ (sF s₁ m 0 #[iv p1, iv p2, iv p3, iv p4, iv p5, iv p6, .unset, .unset, .unset, .unset, .unset, .unset, .unset, .unset, .unset, .unset, .unset, .unset, .unset, .unset, .unset, .unset] [])
  refine Goes.step ?_ (fun _ k => XS.iloadN X0.here hx rfl (hb hby at_0) rfl  k)
  show Goes p e below _ (sF s₁ m 1 #[iv p1, iv p2, iv p3, iv p4, iv p5, iv p6, .unset, .unset, .unset, .unset, .unset, .unset, .unset, .unset, .unset, .unset, .unset, .unset, .unset, .unset, .unset, .unset] [(.int p1)])
  refine Goes.step ?_ (fun _ k => X0.ldcI hx hown (mvT hZ (hw _ (List.mem_of_getElem? (i := 0) rfl))) rfl (hb hby at_1) k)
  show Goes p e below _ (sF s₁ m 3 #[iv p1, iv p2, iv p3, iv p4, iv p5, iv p6, .unset, .unset, .unset, .unset, .unset, .unset, .unset, .unset, .unset, .unset, .unset, .unset, .unset, .unset, .unset, .unset] [(.int (2147483647 : Int32)), (.int p1)])
  refine Goes.step ?_ (fun _ k => XS.iand X0.here hx rfl (hb hby at_3) rfl k)
  show Goes p e below _ (sF s₁ m 4 #[iv p1, iv p2, iv p3, iv p4, iv p5, iv p6, .unset, .unset, .unset, .unset, .unset, .unset, .unset, .unset, .unset, .unset, .unset, .unset, .unset, .unset, .unset, .unset] [(.int (p1 &&& (2147483647 : Int32)))])
  refine Goes.step ?_ (fun _ k => XS.bipush X0.here hx rfl (hb hby at_4) k)
  show Goes p e below _ (sF s₁ m 6 #[iv p1, iv p2, iv p3, iv p4, iv p5, iv p6, .unset, .unset, .unset, .unset, .unset, .unset, .unset, .unset, .unset, .unset, .unset, .unset, .unset, .unset, .unset, .unset] [(.int (6 : Int32)), (.int (p1 &&& (2147483647 : Int32)))])
  refine Goes.step ?_ (fun _ k => iremM X0 hx rfl (hb hby at_6) rfl (by decide) k)
  show Goes p e below _ (sF s₁ m 7 #[iv p1, iv p2, iv p3, iv p4, iv p5, iv p6, .unset, .unset, .unset, .unset, .unset, .unset, .unset, .unset, .unset, .unset, .unset, .unset, .unset, .unset, .unset, .unset] [(.int ((p1 &&& (2147483647 : Int32)) % (6 : Int32)))])
  refine Goes.step ?_ (fun _ k => XS.istore X0.here hx rfl (hb hby at_7) rfl (l' := #[iv p1, iv p2, iv p3, iv p4, iv p5, iv p6, iv ((p1 &&& (2147483647 : Int32)) % (6 : Int32)), .unset, .unset, .unset, .unset, .unset, .unset, .unset, .unset, .unset, .unset, .unset, .unset, .unset, .unset, .unset]) rfl k)
  show Goes p e below _ (sF s₁ m 9 #[iv p1, iv p2, iv p3, iv p4, iv p5, iv p6, iv ((p1 &&& (2147483647 : Int32)) % (6 : Int32)), .unset, .unset, .unset, .unset, .unset, .unset, .unset, .unset, .unset, .unset, .unset, .unset, .unset, .unset, .unset] [])
  have h6 := own_six p1
  obtain ⟨nn, qn⟩ : ∃ z, z = ((p1 &&& (2147483647 : Int32)) % (6 : Int32)) := ⟨_, rfl⟩
  rw [← qn] at h6 ⊢
  show Goes p e below _ (sF s₁ m 9 #[iv p1, iv p2, iv p3, iv p4, iv p5, iv p6, iv nn, .unset, .unset, .unset, .unset, .unset, .unset, .unset, .unset, .unset, .unset, .unset, .unset, .unset, .unset, .unset] [])
  refine Goes.step ?_ (fun _ k => XS.iloadN X0.here hx rfl (hb hby at_9) rfl  k)
  show Goes p e below _ (sF s₁ m 10 #[iv p1, iv p2, iv p3, iv p4, iv p5, iv p6, iv nn, .unset, .unset, .unset, .unset, .unset, .unset, .unset, .unset, .unset, .unset, .unset, .unset, .unset, .unset, .unset] [(.int p2)])
  refine Goes.step ?_ (fun _ k => XS.i2b X0.here hx rfl (hb hby at_10) rfl k)
  show Goes p e below _ (sF s₁ m 11 #[iv p1, iv p2, iv p3, iv p4, iv p5, iv p6, iv nn, .unset, .unset, .unset, .unset, .unset, .unset, .unset, .unset, .unset, .unset, .unset, .unset, .unset, .unset, .unset] [(.int (p2.toInt8.toInt32))])
  refine Goes.step ?_ (fun _ k => XS.istore X0.here hx rfl (hb hby at_11) rfl (l' := #[iv p1, iv p2, iv p3, iv p4, iv p5, iv p6, iv nn, iv (p2.toInt8.toInt32), .unset, .unset, .unset, .unset, .unset, .unset, .unset, .unset, .unset, .unset, .unset, .unset, .unset, .unset]) rfl k)
  show Goes p e below _ (sF s₁ m 13 #[iv p1, iv p2, iv p3, iv p4, iv p5, iv p6, iv nn, iv (p2.toInt8.toInt32), .unset, .unset, .unset, .unset, .unset, .unset, .unset, .unset, .unset, .unset, .unset, .unset, .unset, .unset] [])
  refine Goes.step ?_ (fun _ k => XS.iloadN X0.here hx rfl (hb hby at_13) rfl  k)
  show Goes p e below _ (sF s₁ m 14 #[iv p1, iv p2, iv p3, iv p4, iv p5, iv p6, iv nn, iv (p2.toInt8.toInt32), .unset, .unset, .unset, .unset, .unset, .unset, .unset, .unset, .unset, .unset, .unset, .unset, .unset, .unset] [(.int p3)])
  refine Goes.step ?_ (fun _ k => XS.i2b X0.here hx rfl (hb hby at_14) rfl k)
  show Goes p e below _ (sF s₁ m 15 #[iv p1, iv p2, iv p3, iv p4, iv p5, iv p6, iv nn, iv (p2.toInt8.toInt32), .unset, .unset, .unset, .unset, .unset, .unset, .unset, .unset, .unset, .unset, .unset, .unset, .unset, .unset] [(.int (p3.toInt8.toInt32))])
  refine Goes.step ?_ (fun _ k => XS.istore X0.here hx rfl (hb hby at_15) rfl (l' := #[iv p1, iv p2, iv p3, iv p4, iv p5, iv p6, iv nn, iv (p2.toInt8.toInt32), iv (p3.toInt8.toInt32), .unset, .unset, .unset, .unset, .unset, .unset, .unset, .unset, .unset, .unset, .unset, .unset, .unset]) rfl k)
  show Goes p e below _ (sF s₁ m 17 #[iv p1, iv p2, iv p3, iv p4, iv p5, iv p6, iv nn, iv (p2.toInt8.toInt32), iv (p3.toInt8.toInt32), .unset, .unset, .unset, .unset, .unset, .unset, .unset, .unset, .unset, .unset, .unset, .unset, .unset] [])
  refine Goes.step ?_ (fun _ k => XS.iloadN X0.here hx rfl (hb hby at_17) rfl  k)
  show Goes p e below _ (sF s₁ m 18 #[iv p1, iv p2, iv p3, iv p4, iv p5, iv p6, iv nn, iv (p2.toInt8.toInt32), iv (p3.toInt8.toInt32), .unset, .unset, .unset, .unset, .unset, .unset, .unset, .unset, .unset, .unset, .unset, .unset, .unset] [(.int p4)])
  refine Goes.step ?_ (fun _ k => XS.i2b X0.here hx rfl (hb hby at_18) rfl k)
  show Goes p e below _ (sF s₁ m 19 #[iv p1, iv p2, iv p3, iv p4, iv p5, iv p6, iv nn, iv (p2.toInt8.toInt32), iv (p3.toInt8.toInt32), .unset, .unset, .unset, .unset, .unset, .unset, .unset, .unset, .unset, .unset, .unset, .unset, .unset] [(.int (p4.toInt8.toInt32))])
  refine Goes.step ?_ (fun _ k => XS.istore X0.here hx rfl (hb hby at_19) rfl (l' := #[iv p1, iv p2, iv p3, iv p4, iv p5, iv p6, iv nn, iv (p2.toInt8.toInt32), iv (p3.toInt8.toInt32), iv (p4.toInt8.toInt32), .unset, .unset, .unset, .unset, .unset, .unset, .unset, .unset, .unset, .unset, .unset, .unset]) rfl k)
  show Goes p e below _ (sF s₁ m 21 #[iv p1, iv p2, iv p3, iv p4, iv p5, iv p6, iv nn, iv (p2.toInt8.toInt32), iv (p3.toInt8.toInt32), iv (p4.toInt8.toInt32), .unset, .unset, .unset, .unset, .unset, .unset, .unset, .unset, .unset, .unset, .unset, .unset] [])
  refine Goes.step ?_ (fun _ k => XS.iload X0.here hx rfl (hb hby at_21) rfl  k)
  show Goes p e below _ (sF s₁ m 23 #[iv p1, iv p2, iv p3, iv p4, iv p5, iv p6, iv nn, iv (p2.toInt8.toInt32), iv (p3.toInt8.toInt32), iv (p4.toInt8.toInt32), .unset, .unset, .unset, .unset, .unset, .unset, .unset, .unset, .unset, .unset, .unset, .unset] [(.int p5)])
  refine Goes.step ?_ (fun _ k => XS.i2b X0.here hx rfl (hb hby at_23) rfl k)
  show Goes p e below _ (sF s₁ m 24 #[iv p1, iv p2, iv p3, iv p4, iv p5, iv p6, iv nn, iv (p2.toInt8.toInt32), iv (p3.toInt8.toInt32), iv (p4.toInt8.toInt32), .unset, .unset, .unset, .unset, .unset, .unset, .unset, .unset, .unset, .unset, .unset, .unset] [(.int (p5.toInt8.toInt32))])
  refine Goes.step ?_ (fun _ k => XS.istore X0.here hx rfl (hb hby at_24) rfl (l' := #[iv p1, iv p2, iv p3, iv p4, iv p5, iv p6, iv nn, iv (p2.toInt8.toInt32), iv (p3.toInt8.toInt32), iv (p4.toInt8.toInt32), iv (p5.toInt8.toInt32), .unset, .unset, .unset, .unset, .unset, .unset, .unset, .unset, .unset, .unset, .unset]) rfl k)
  show Goes p e below _ (sF s₁ m 26 #[iv p1, iv p2, iv p3, iv p4, iv p5, iv p6, iv nn, iv (p2.toInt8.toInt32), iv (p3.toInt8.toInt32), iv (p4.toInt8.toInt32), iv (p5.toInt8.toInt32), .unset, .unset, .unset, .unset, .unset, .unset, .unset, .unset, .unset, .unset, .unset] [])
  refine Goes.step ?_ (fun _ k => XS.iload X0.here hx rfl (hb hby at_26) rfl  k)
  show Goes p e below _ (sF s₁ m 28 #[iv p1, iv p2, iv p3, iv p4, iv p5, iv p6, iv nn, iv (p2.toInt8.toInt32), iv (p3.toInt8.toInt32), iv (p4.toInt8.toInt32), iv (p5.toInt8.toInt32), .unset, .unset, .unset, .unset, .unset, .unset, .unset, .unset, .unset, .unset, .unset] [(.int p6)])
  refine Goes.step ?_ (fun _ k => XS.i2b X0.here hx rfl (hb hby at_28) rfl k)
  show Goes p e below _ (sF s₁ m 29 #[iv p1, iv p2, iv p3, iv p4, iv p5, iv p6, iv nn, iv (p2.toInt8.toInt32), iv (p3.toInt8.toInt32), iv (p4.toInt8.toInt32), iv (p5.toInt8.toInt32), .unset, .unset, .unset, .unset, .unset, .unset, .unset, .unset, .unset, .unset, .unset] [(.int (p6.toInt8.toInt32))])
  refine Goes.step ?_ (fun _ k => XS.istore X0.here hx rfl (hb hby at_29) rfl (l' := #[iv p1, iv p2, iv p3, iv p4, iv p5, iv p6, iv nn, iv (p2.toInt8.toInt32), iv (p3.toInt8.toInt32), iv (p4.toInt8.toInt32), iv (p5.toInt8.toInt32), iv (p6.toInt8.toInt32), .unset, .unset, .unset, .unset, .unset, .unset, .unset, .unset, .unset, .unset]) rfl k)
  show Goes p e below _ (sF s₁ m 31 #[iv p1, iv p2, iv p3, iv p4, iv p5, iv p6, iv nn, iv (p2.toInt8.toInt32), iv (p3.toInt8.toInt32), iv (p4.toInt8.toInt32), iv (p5.toInt8.toInt32), iv (p6.toInt8.toInt32), .unset, .unset, .unset, .unset, .unset, .unset, .unset, .unset, .unset, .unset] [])
  rcases h6 with rfl | rfl | rfl | rfl | rfl | rfl
  · exact tail31_0 p1 p2 p3 p4 p5 p6 (p2.toInt8.toInt32) (p3.toInt8.toInt32) (p4.toInt8.toInt32) (p5.toInt8.toInt32) (p6.toInt8.toInt32) cK one X0 hx hZ hw hby hlk hret hml hown e0 N0 Z0 hZH hSame hLam (own_byte _) (own_byte _) (own_byte _) (own_byte _) (own_byte _)
  · exact tail31_1 p1 p2 p3 p4 p5 p6 (p2.toInt8.toInt32) (p3.toInt8.toInt32) (p4.toInt8.toInt32) (p5.toInt8.toInt32) (p6.toInt8.toInt32) cK one X0 hx hZ hw hby hlk hret hml hown e0 N0 Z0 hZH hSame hLam (own_byte _) (own_byte _) (own_byte _) (own_byte _) (own_byte _)
  · exact tail31_2 p1 p2 p3 p4 p5 p6 (p2.toInt8.toInt32) (p3.toInt8.toInt32) (p4.toInt8.toInt32) (p5.toInt8.toInt32) (p6.toInt8.toInt32) cK one X0 hx hZ hw hby hlk hret hml hown e0 N0 Z0 hZH hSame hLam (own_byte _) (own_byte _) (own_byte _) (own_byte _) (own_byte _)
  · exact tail31_3 p1 p2 p3 p4 p5 p6 (p2.toInt8.toInt32) (p3.toInt8.toInt32) (p4.toInt8.toInt32) (p5.toInt8.toInt32) (p6.toInt8.toInt32) cK one X0 hx hZ hw hby hlk hret hml hown e0 N0 Z0 hZH hSame hLam (own_byte _) (own_byte _) (own_byte _) (own_byte _) (own_byte _)
  · exact tail31_4 p1 p2 p3 p4 p5 p6 (p2.toInt8.toInt32) (p3.toInt8.toInt32) (p4.toInt8.toInt32) (p5.toInt8.toInt32) (p6.toInt8.toInt32) cK one X0 hx hZ hw hby hlk hret hml hown e0 N0 Z0 hZH hSame hLam (own_byte _) (own_byte _) (own_byte _) (own_byte _) (own_byte _)
  · exact tail31_5 p1 p2 p3 p4 p5 p6 (p2.toInt8.toInt32) (p3.toInt8.toInt32) (p4.toInt8.toInt32) (p5.toInt8.toInt32) (p6.toInt8.toInt32) cK one X0 hx hZ hw hby hlk hret hml hown e0 N0 Z0 hZH hSame hLam (own_byte _) (own_byte _) (own_byte _) (own_byte _) (own_byte _)
set_option maxRecDepth 65536 in
set_option maxHeartbeats 40000000 in
theorem comes_1 {Post : Tables → Env → Array Value → State → Outcome → State → Prop} (hpost : ∀ tb e args s v u, (limb_1_1.after args s (.returned v) u = true ∧ limb_1_2.after args s (.returned v) u = true ∧ True) → FrameEnd s (.returned v) u (Jvm.fieldLocs frame_1_writes args s ++ Jvm.arrayLocs frame_1_arrays args s ++ Jvm.staticLocs frame_1_statics s) 16 128 → Post tb e args s (.returned v) u) :
    ArmFor flags0 classFile x code maxLocals ret World_1 tables_1 room_1 Calls_1 rest_1 Pre_1 Post := by
  intro l hfl _ _ p e ha hc hk s m args below hf hA hF happ hP
  obtain ⟨hcalls, hrest, hpre⟩ := hP
  obtain ⟨-, -, -, hnamed, -, -, -, hat⟩ := (Spec.applies_iff hf).mp happ
  obtain ⟨hg, hn⟩ := and_e (Cond.before_iff.mp (show (Jvm.Cond.and given_1 narrow_1).before args s = true from hpre))
  obtain ⟨hcnt, g0⟩ := and_e hg
  obtain ⟨ga0, g1⟩ := and_e g0
  obtain ⟨ga1, g2⟩ := and_e g1
  obtain ⟨ga2, g3⟩ := and_e g2
  obtain ⟨ga3, g4⟩ := and_e g3
  obtain ⟨ga4, g5⟩ := and_e g4
  have ga5 := g5
  obtain ⟨w0, w1, w2, w3, w4, w5, rfl⟩ : ∃ w0 w1 w2 w3 w4 w5 : Value, args = #[w0, w1, w2, w3, w4, w5] := by
    have hs : args.size = 6 := by simpa [Cond.value, given_1] using hcnt
    obtain ⟨L⟩ := args
    match L, hs with
    | [w0, w1, w2, w3, w4, w5], _ => exact ⟨w0, w1, w2, w3, w4, w5, rfl⟩
  have hw := fun d (hd : d ∈ tables_1) => atoms_spec (ws := Jvm.Cond.code x code maxLocals ret :: tables_1) hat d (List.mem_cons_of_mem _ hd)
  have hfit : Fit s := fun {y c} hc i hi => by
    obtain ⟨ha, rfl⟩ := Array.getElem?_eq_some_iff.mp hc
    have q := List.all_eq_true.mp ((Array.all_eq_true_iff_forall_mem.mp hF) _ (Array.getElem_mem ha)) i (List.mem_range.mpr hi)
    simpa [Array.getElem?_eq_getElem hi] using q
  obtain ⟨i0, ei0⟩ := is_v ga0
  obtain rfl : w0 = (.int i0) := Option.some.inj ei0
  obtain ⟨i1, ei1⟩ := is_v ga1
  obtain rfl : w1 = (.int i1) := Option.some.inj ei1
  obtain ⟨i2, ei2⟩ := is_v ga2
  obtain rfl : w2 = (.int i2) := Option.some.inj ei2
  obtain ⟨i3, ei3⟩ := is_v ga3
  obtain rfl : w3 = (.int i3) := Option.some.inj ei3
  obtain ⟨i4, ei4⟩ := is_v ga4
  obtain rfl : w4 = (.int i4) := Option.some.inj ei4
  obtain ⟨i5, ei5⟩ := is_v ga5
  obtain rfl : w5 = (.int i5) := Option.some.inj ei5
  obtain ⟨cK, one, hLam⟩ := Cond.lambdaSite_spec (hw _ (List.mem_of_getElem? (i := 30) rfl))
  obtain ⟨tt0, htt, -⟩ := State.frames_cons hf
  have hSame : s.sameButNew s [] 0 0 := State.sameButNew.refl s htt
  obtain ⟨n, o, h1, h2, h3, _, L, rfl, ⟨rfl, N⟩, hq⟩ := rm0 l s _ hw tables_1 i0 i1 i2 i3 i4 i5 cK one s.heap s.heap.size (Nat.le_refl _) hSame hLam p e ha hc hk s m _ below hf ((Spec.applies_iff_loose hf).mp happ).1 ⟨rfl, State.WarmedH.refl s, rfl⟩ trivial
  refine ⟨n, _, h1, h2, h3, hpost _ _ _ _ _ _ ⟨Cond.after_iff.mpr rfl, Cond.after_iff.mpr (eq_i res_at (Term.int_eval (1)) rfl), trivial⟩ ⟨hq.1, hq.2.1, (hq.2.2.sift fun y hy => Or.inr (N y hy)).mono (by decide) (by decide)⟩⟩
theorem main_1_1 : Claimed_1_1 := comes_1 fun _ _ _ _ _ _ h hF => ⟨h.1, wide hF⟩
theorem main_1_2 : Claimed_1_2 := comes_1 fun _ _ _ _ _ _ h hF => ⟨h.2.1, wide hF⟩
end Jvm.Pilot.@@N@@
namespace Jvm.Pilot.@@N@@
open Jvm Jvm.ClassFile Sem Op Lib Jvm.Free Jvm.Stand Jvm.Pilot.@@N@@.Jvm.D
/-! MADE BY PROGRAM (witnessworld.py) out of the Statement's table words and the real class files: 13 classes; the members and pool entries that the words name. The judged class is class 1, her method 3. -/
namespace start1
open Jvm.ClassFile
def u (s : String) : CpInfo := .utf8 (stringToUtf16 s)
/-- a pool by its gaps: so many unusable entries, then the entry; so many at the end -/
def gap : Nat → List CpInfo → List CpInfo
  | 0, r => r
  | n + 1, r => .unusable :: gap n r
def poolList (es : List (Nat × CpInfo)) (last : Nat) : List CpInfo := es.foldr (fun e r => gap e.1 (e.2 :: r)) (gap last [])
def pool (es : List (Nat × CpInfo)) (last : Nat) : Array CpInfo := ⟨poolList es last⟩
def fileOf (pool : Array CpInfo) (this : Nat) (attrs : Array Attribute := #[]) (ms : Array MethodInfo := #[]) (fl : Nat := 33) (sup : Nat := 0) (ifs : Array Nat := #[]) (fds : Array FieldInfo := #[]) : ClassFile where
  minorVersion := 0
  majorVersion := 65
  constantPool := pool
  accessFlags := fl
  thisClass := this
  superClass := sup
  interfaces := ifs
  fields := fds
  methods := ms
  attributes := attrs
def plain (name : String) (sup : Option ClassId) : Class where
  name := name
  kind := .ordinary
  loader := none
  accessFlags := 33
  super := sup
  interfaces := #[]
  cf := none
  fields := #[]
  methods := #[]
  instanceTypes := #[]
  staticTypes := #[]
  resolved := #[]
  callSites := []
  init := .initialized
  statics := none
  mirror := none

def pool0 : Array CpInfo := pool [(5, u "<init>"), (0, u "()V"), (1, .class_ 10), (1, u "java/lang/Object")] 113

def k0c0 : Code := { maxStack := 0, maxLocals := 1, code := object_method_1_code, exceptionTable := #[], attributes := #[] }
def k0m0 : Method := { name := "<init>", desc := "()V", sig := { parameters := [], returnType := none }, accessFlags := 1, code := some k0c0 }
/-- java/lang/Object -/
def k0 : Class := { plain "java/lang/Object" none with
  accessFlags := 33
  interfaces := #[]
  cf := some (fileOf pool0 8 #[] #[{ accessFlags := 1, nameIndex := 5, descriptorIndex := 6, attributes := #[] }] 33 0 #[] #[])
  fields := #[]
  methods := #[k0m0]
  instanceTypes := #[]
  staticTypes := #[]
  resolved := Array.replicate 124 none
  statics := none }

def pool1 : Array CpInfo := pool [(2, .class_ 4), (0, .nameAndType 5 6), (0, u "java/lang/Object"), (0, u "<init>"), (0, u "()V"), (0, .methodref 8 9), (0, .class_ 10), (0, .nameAndType 11 12), (0, u "com/example/borderline/borderline/BorderTableShiftedPinLaw"), (0, u "border"), (0, u "([BII)Z"), (0, .integer 2147483647), (0, .class_ 15), (0, u "com/example/borderline/borderline/Comparisons"), (0, .methodref 14 3), (0, .methodref 18 19), (0, .class_ 20), (0, .nameAndType 21 22), (0, u "com/example/borderline/borderline/BorderTable"), (0, u "shifted"), (0, u "([BLcom/example/borderline/borderline/Comparisons;)[I"), (0, .methodref 8 24), (0, .nameAndType 25 26), (0, u "longest"), (0, u "([BI)I"), (0, .methodref 14 28), (0, .nameAndType 29 30), (0, u "count"), (0, u "()J"), (0, .methodref 32 33), (0, .class_ 34), (0, .nameAndType 35 36), (0, u "java/lang/Math"), (0, u "max"), (0, u "(II)I"), (3, u "law"), (0, u "(IIIIII)Z")] 6

def k1m0 : Method := { name := "<init>", desc := "()V", sig := { parameters := [], returnType := none }, accessFlags := 2, code := none }
def k1c1 : Code := { maxStack := 4, maxLocals := 4, code := method_2_code, exceptionTable := #[], attributes := #[] }
def k1m1 : Method := { name := "border", desc := "([BII)Z", sig := { parameters := [(.array .byte), .int, .int], returnType := some .boolean }, accessFlags := 10, code := some k1c1 }
def k1c2 : Code := { maxStack := 3, maxLocals := 2, code := method_3_code, exceptionTable := #[], attributes := #[] }
def k1m2 : Method := { name := "longest", desc := "([BI)I", sig := { parameters := [(.array .byte), .int], returnType := some .int }, accessFlags := 10, code := some k1c2 }
def k1c3 : Code := { maxStack := 4, maxLocals := 22, code := code, exceptionTable := #[], attributes := #[] }
def k1m3 : Method := { name := "law", desc := "(IIIIII)Z", sig := { parameters := [.int, .int, .int, .int, .int, .int], returnType := some .boolean }, accessFlags := 9, code := some k1c3 }
/-- com/example/borderline/borderline/BorderTableShiftedPinLaw -/
def k1 : Class := { plain "com/example/borderline/borderline/BorderTableShiftedPinLaw" (some 0) with
  accessFlags := 49
  interfaces := #[]
  cf := some (fileOf pool1 8 #[] #[{ accessFlags := 2, nameIndex := 5, descriptorIndex := 6, attributes := #[] }, { accessFlags := 10, nameIndex := 11, descriptorIndex := 12, attributes := #[] }, { accessFlags := 10, nameIndex := 25, descriptorIndex := 26, attributes := #[] }, { accessFlags := 9, nameIndex := 40, descriptorIndex := 41, attributes := #[] }] 49 2 #[] #[])
  fields := #[]
  methods := #[k1m0, k1m1, k1m2, k1m3]
  instanceTypes := #[]
  staticTypes := #[]
  resolved := Array.replicate 48 none
  statics := none }

def pool2 : Array CpInfo := pool [(1, .methodref 2 3), (0, .class_ 4), (0, .nameAndType 5 6), (0, u "java/lang/Object"), (0, u "<init>"), (0, u "()V"), (0, .fieldref 8 9), (0, .class_ 10), (0, .nameAndType 11 12), (0, u "com/example/borderline/borderline/Comparisons"), (0, u "count"), (0, u "J"), (2, u "add"), (0, u "(J)V"), (0, u "()J")] 2

def k2c0 : Code := { maxStack := 1, maxLocals := 1, code := prog_16_method_1_code, exceptionTable := #[], attributes := #[] }
def k2m0 : Method := { name := "<init>", desc := "()V", sig := { parameters := [], returnType := none }, accessFlags := 0, code := some k2c0 }
def k2c1 : Code := { maxStack := 5, maxLocals := 3, code := prog_16_method_2_code, exceptionTable := #[], attributes := #[] }
def k2m1 : Method := { name := "add", desc := "(J)V", sig := { parameters := [.long], returnType := none }, accessFlags := 0, code := some k2c1 }
def k2c2 : Code := { maxStack := 2, maxLocals := 1, code := prog_16_method_3_code, exceptionTable := #[], attributes := #[] }
def k2m2 : Method := { name := "count", desc := "()J", sig := { parameters := [], returnType := some .long }, accessFlags := 0, code := some k2c2 }
/-- com/example/borderline/borderline/Comparisons -/
def k2 : Class := { plain "com/example/borderline/borderline/Comparisons" (some 0) with
  accessFlags := 48
  interfaces := #[]
  cf := some (fileOf pool2 8 #[] #[{ accessFlags := 0, nameIndex := 5, descriptorIndex := 6, attributes := #[] }, { accessFlags := 0, nameIndex := 15, descriptorIndex := 16, attributes := #[] }, { accessFlags := 0, nameIndex := 11, descriptorIndex := 17, attributes := #[] }] 48 2 #[] #[{ accessFlags := 2, nameIndex := 11, descriptorIndex := 12, attributes := #[] }])
  fields := #[{ name := "count", type := .long, accessFlags := 2, slot := 0, constantValue := 0 }]
  methods := #[k2m0, k2m1, k2m2]
  instanceTypes := #[.long]
  staticTypes := #[]
  resolved := Array.replicate 20 none
  statics := none }

def pool3 : Array CpInfo := pool [(2, .class_ 4), (1, u "java/lang/Object"), (0, u "<init>"), (0, u "()V"), (1, .class_ 10), (1, u "com/example/borderline/borderline/BorderTable"), (1, u "([BLcom/example/borderline/borderline/Comparisons;)[I"), (6, .methodref 8 20), (0, .nameAndType 21 22), (0, u "symbolsOf"), (0, u "([B)Lcom/example/borderline/borderline/BorderTable$Symbols;"), (0, .methodref 8 24), (0, .nameAndType 25 26), (0, u "build"), (0, u "(Lcom/example/borderline/borderline/BorderTable$Symbols;ILcom/example/borderline/borderline/Comparisons;)[I"), (3, .invokeDynamic 0 31), (0, .nameAndType 32 22), (0, u "same"), (2, .interfaceMethodref 36 37), (0, .class_ 38), (0, .nameAndType 32 39), (0, u "com/example/borderline/borderline/BorderTable$Symbols"), (0, u "(II)Z"), (0, .methodref 41 42), (0, .class_ 43), (0, .nameAndType 44 45), (0, u "java/lang/Math"), (0, u "max"), (0, u "(II)I"), (0, .methodref 47 48), (0, .class_ 49), (0, .nameAndType 50 51), (0, u "com/example/borderline/borderline/Comparisons"), (0, u "add"), (0, u "(J)V"), (3, u "shifted"), (6, u "lambda$symbolsOf$0"), (0, u "([BII)Z"), (4, .methodType 39), (0, .methodHandle 6 70), (0, .methodref 8 71), (0, .nameAndType 62 63), (3, .methodHandle 6 76), (0, .methodref 77 78), (0, .class_ 79), (0, .nameAndType 80 81), (0, u "java/lang/invoke/LambdaMetafactory"), (0, u "metafactory"), (0, u "(Ljava/lang/invoke/MethodHandles$Lookup;Ljava/lang/String;Ljava/lang/invoke/MethodType;Ljava/lang/invoke/MethodType;Ljava/lang/invoke/MethodHandle;Ljava/lang/invoke/MethodType;)Ljava/lang/invoke/CallSite;")] 7

def k3m0 : Method := { name := "<init>", desc := "()V", sig := { parameters := [], returnType := none }, accessFlags := 2, code := none }
def k3c1 : Code := { maxStack := 3, maxLocals := 2, code := prog_7_method_3_code, exceptionTable := #[], attributes := #[] }
def k3m1 : Method := { name := "shifted", desc := "([BLcom/example/borderline/borderline/Comparisons;)[I", sig := { parameters := [(.array .byte), (.object "com/example/borderline/borderline/Comparisons")], returnType := some (.array .int) }, accessFlags := 8, code := some k3c1 }
def k3c2 : Code := { maxStack := 1, maxLocals := 1, code := prog_7_method_6_code, exceptionTable := #[], attributes := #[] }
def k3m2 : Method := { name := "symbolsOf", desc := "([B)Lcom/example/borderline/borderline/BorderTable$Symbols;", sig := { parameters := [(.array .byte)], returnType := some (.object "com/example/borderline/borderline/BorderTable$Symbols") }, accessFlags := 10, code := some k3c2 }
def k3c3 : Code := { maxStack := 5, maxLocals := 8, code := prog_7_method_8_code, exceptionTable := #[], attributes := #[] }
def k3m3 : Method := { name := "build", desc := "(Lcom/example/borderline/borderline/BorderTable$Symbols;ILcom/example/borderline/borderline/Comparisons;)[I", sig := { parameters := [(.object "com/example/borderline/borderline/BorderTable$Symbols"), .int, (.object "com/example/borderline/borderline/Comparisons")], returnType := some (.array .int) }, accessFlags := 10, code := some k3c3 }
def k3c4 : Code := { maxStack := 3, maxLocals := 3, code := prog_7_method_10_code, exceptionTable := #[], attributes := #[] }
def k3m4 : Method := { name := "lambda$symbolsOf$0", desc := "([BII)Z", sig := { parameters := [(.array .byte), .int, .int], returnType := some .boolean }, accessFlags := 4106, code := some k3c4 }
/-- com/example/borderline/borderline/BorderTable -/
def k3 : Class := { plain "com/example/borderline/borderline/BorderTable" (some 0) with
  accessFlags := 48
  interfaces := #[]
  cf := some (fileOf pool3 8 #[.nestMembers #[36], .bootstrapMethods #[⟨75, #[68, 69, 68]⟩, ⟨0, #[]⟩]] #[{ accessFlags := 2, nameIndex := 5, descriptorIndex := 6, attributes := #[] }, { accessFlags := 8, nameIndex := 55, descriptorIndex := 12, attributes := #[] }, { accessFlags := 10, nameIndex := 21, descriptorIndex := 22, attributes := #[] }, { accessFlags := 10, nameIndex := 25, descriptorIndex := 26, attributes := #[] }, { accessFlags := 4106, nameIndex := 62, descriptorIndex := 63, attributes := #[] }] 48 2 #[] #[])
  fields := #[]
  methods := #[k3m0, k3m1, k3m2, k3m3, k3m4]
  instanceTypes := #[]
  staticTypes := #[]
  resolved := Array.replicate 89 none
  callSites := [(2, 1, .makes 12)]
  statics := none }

def pool4 : Array CpInfo := pool [(1, .class_ 2), (0, u "java/lang/Math"), (1, .class_ 6), (1, u "java/lang/Object"), (0, u "<init>"), (0, u "()V"), (89, .class_ 100), (1, u "java/lang/Math$RandomNumberGeneratorHolder"), (71, u "negativeZeroFloatBits"), (0, u "J"), (2, u "negativeZeroDoubleBits"), (21, u "max"), (46, u "$assertionsDisabled"), (0, u "Z"), (88, u "(II)I"), (2, u "twoToTheDoubleScaleDown"), (0, u "D"), (4, u "twoToTheDoubleScaleUp"), (9, u "E"), (3, u "PI"), (2, u "TAU"), (2, u "DEGREES_TO_RADIANS"), (0, u "RADIANS_TO_DEGREES")] 94

def k4m0 : Method := { name := "<init>", desc := "()V", sig := { parameters := [], returnType := none }, accessFlags := 2, code := none }
def k4c1 : Code := { maxStack := 2, maxLocals := 2, code := jdk_29_method_65_code, exceptionTable := #[], attributes := #[] }
def k4m1 : Method := { name := "max", desc := "(II)I", sig := { parameters := [.int, .int], returnType := some .int }, accessFlags := 9, code := some k4c1 }
/-- java/lang/Math -/
def k4 : Class := { plain "java/lang/Math" (some 0) with
  accessFlags := 49
  interfaces := #[]
  cf := some (fileOf pool4 1 #[.nestMembers #[98]] #[{ accessFlags := 2, nameIndex := 7, descriptorIndex := 8, attributes := #[] }, { accessFlags := 9, nameIndex := 198, descriptorIndex := 335, attributes := #[] }] 49 4 #[] #[{ accessFlags := 25, nameIndex := 354, descriptorIndex := 339, attributes := #[] }, { accessFlags := 25, nameIndex := 358, descriptorIndex := 339, attributes := #[] }, { accessFlags := 25, nameIndex := 361, descriptorIndex := 339, attributes := #[] }, { accessFlags := 26, nameIndex := 364, descriptorIndex := 339, attributes := #[] }, { accessFlags := 26, nameIndex := 365, descriptorIndex := 339, attributes := #[] }, { accessFlags := 26, nameIndex := 172, descriptorIndex := 173, attributes := #[] }, { accessFlags := 26, nameIndex := 176, descriptorIndex := 173, attributes := #[] }, { accessFlags := 8, nameIndex := 344, descriptorIndex := 339, attributes := #[] }, { accessFlags := 8, nameIndex := 338, descriptorIndex := 339, attributes := #[] }, { accessFlags := 4120, nameIndex := 245, descriptorIndex := 246, attributes := #[] }])
  fields := #[{ name := "E", type := .double, accessFlags := 25, slot := 0, constantValue := 0 }, { name := "PI", type := .double, accessFlags := 25, slot := 1, constantValue := 0 }, { name := "TAU", type := .double, accessFlags := 25, slot := 2, constantValue := 0 }, { name := "DEGREES_TO_RADIANS", type := .double, accessFlags := 26, slot := 3, constantValue := 0 }, { name := "RADIANS_TO_DEGREES", type := .double, accessFlags := 26, slot := 4, constantValue := 0 }, { name := "negativeZeroFloatBits", type := .long, accessFlags := 26, slot := 5, constantValue := 0 }, { name := "negativeZeroDoubleBits", type := .long, accessFlags := 26, slot := 6, constantValue := 0 }, { name := "twoToTheDoubleScaleUp", type := .double, accessFlags := 8, slot := 7, constantValue := 0 }, { name := "twoToTheDoubleScaleDown", type := .double, accessFlags := 8, slot := 8, constantValue := 0 }, { name := "$assertionsDisabled", type := .boolean, accessFlags := 4120, slot := 9, constantValue := 0 }]
  methods := #[k4m0, k4m1]
  instanceTypes := #[]
  staticTypes := #[.double, .double, .double, .double, .double, .long, .long, .double, .double, .boolean]
  resolved := Array.replicate 460 none
  statics := none }

def pool5 : Array CpInfo := pool [(1, .class_ 2), (0, u "com/example/borderline/borderline/BorderTable$Symbols"), (0, .class_ 4), (0, u "java/lang/Object"), (0, u "same"), (0, u "(II)Z"), (5, .class_ 13), (0, u "com/example/borderline/borderline/BorderTable")] 2

def k5m0 : Method := { name := "same", desc := "(II)Z", sig := { parameters := [.int, .int], returnType := some .boolean }, accessFlags := 1025, code := none }
/-- com/example/borderline/borderline/BorderTable$Symbols -/
def k5 : Class := { plain "com/example/borderline/borderline/BorderTable$Symbols" (some 0) with
  accessFlags := 1536
  interfaces := #[]
  cf := some (fileOf pool5 1 #[.nestHost 12] #[{ accessFlags := 1025, nameIndex := 5, descriptorIndex := 6, attributes := #[] }] 1536 3 #[] #[])
  fields := #[]
  methods := #[k5m0]
  instanceTypes := #[]
  staticTypes := #[]
  resolved := Array.replicate 16 none
  statics := none }

def pool6 : Array CpInfo := pool [(1, u "java/lang/Cloneable"), (0, .class_ 1), (0, u "java/lang/Object"), (0, .class_ 3)] 3

/-- java/lang/Cloneable -/
def k6 : Class := { plain "java/lang/Cloneable" (some 0) with
  accessFlags := 1537
  interfaces := #[]
  cf := some (fileOf pool6 2 #[] #[] 1537 4 #[] #[])
  fields := #[]
  methods := #[]
  instanceTypes := #[]
  staticTypes := #[]
  resolved := Array.replicate 8 none
  statics := none }

def pool7 : Array CpInfo := pool [(1, u "java/io/Serializable"), (0, .class_ 1), (0, u "java/lang/Object"), (0, .class_ 3)] 3

/-- java/io/Serializable -/
def k7 : Class := { plain "java/io/Serializable" (some 0) with
  accessFlags := 1537
  interfaces := #[]
  cf := some (fileOf pool7 2 #[] #[] 1537 4 #[] #[])
  fields := #[]
  methods := #[]
  instanceTypes := #[]
  staticTypes := #[]
  resolved := Array.replicate 8 none
  statics := none }

/-- the primitive byte -/
def k8 : Class := { plain "byte" none with kind := .primitive 'B', accessFlags := 0x411 }
/-- [B -/
def k9 : Class := { plain "[B" (some 0) with kind := .array 8 .byte, interfaces := #[6, 7], accessFlags := 1041 }

/-- the primitive int -/
def k10 : Class := { plain "int" none with kind := .primitive 'I', accessFlags := 0x411 }
/-- [I -/
def k11 : Class := { plain "[I" (some 0) with kind := .array 10 .int, interfaces := #[6, 7], accessFlags := 1041 }

def classes0 : Array Class := #[k0, k1, k2, k3, k4, k5, k6, k7, k8, k9, k10, k11]
/-- the class that the rule has made for the site at 1 of com/example/borderline/borderline/BorderTable.symbolsOf -/
def k12 : Class := Jvm.LamKit.madeRec { classes := classes0 } "com/example/borderline/borderline/BorderTable" (Jvm.Lambda.Shape.mk "com/example/borderline/borderline/BorderTable$Symbols" "same" (Jvm.ClassFile.MethodDescriptor.mk ([Jvm.ClassFile.FieldType.int, Jvm.ClassFile.FieldType.int] : List Jvm.ClassFile.FieldType) (Option.some Jvm.ClassFile.FieldType.boolean)) ([(Jvm.ClassFile.FieldType.array Jvm.ClassFile.FieldType.byte)] : List Jvm.ClassFile.FieldType) (6 : Nat) "com/example/borderline/borderline/BorderTable" "lambda$symbolsOf$0" (Jvm.ClassFile.MethodDescriptor.mk ([(Jvm.ClassFile.FieldType.array Jvm.ClassFile.FieldType.byte), Jvm.ClassFile.FieldType.int, Jvm.ClassFile.FieldType.int] : List Jvm.ClassFile.FieldType) (Option.some Jvm.ClassFile.FieldType.boolean)) false (Jvm.ClassFile.MethodDescriptor.mk ([Jvm.ClassFile.FieldType.int, Jvm.ClassFile.FieldType.int] : List Jvm.ClassFile.FieldType) (Option.some Jvm.ClassFile.FieldType.boolean))) 12

def heap : Heap := #[]
def classes : Array Class := #[k0, k1, k2, k3, k4, k5, k6, k7, k8, k9, k10, k11, k12]
def interned : List (Array UInt16 × Addr) := []
def slotsUsed : Nat := 0
def theMethod : MethodId := ⟨1, 3⟩
def args0 : Array Value := #[.int 5, .int 5, .int 5, .int 5, .int 5, .int 5]
def aboutOver (below : List Frame) : State where
  vm := { classes := classes, interned := interned.toArray }
  heap := heap
  slotsUsed := slotsUsed
  threads := #[{ frames := .invoking theMethod args0 :: below }]
def below0 : List Frame := [.native { method := ⟨0, 0⟩, args := #[] }]
def about1 : State := aboutOver below0
def p0 : Program := .bare "" "" ""
def e0 : Env := launch0.env 0 0 0
theorem w_frames : about1.frames = Frame.invoking theMethod args0 :: below0 := rfl
set_option maxRecDepth 65536 in
theorem w_args : argsFit about1.vm theMethod args0 = true := by decide +kernel
set_option maxRecDepth 65536 in
theorem w_heap : heapFits about1 = true := by decide +kernel
set_option maxRecDepth 65536 in
theorem w_runnable : about1.curStatus? = some .runnable := by decide +kernel
set_option maxRecDepth 65536 in
theorem w_alone : about1.alone = true := by decide +kernel
set_option maxRecDepth 65536 in
theorem w_named : about1.methodNamed? x = some theMethod := by decide +kernel
set_option maxRecDepth 65536 in
theorem w_hears : about1.hears theMethod below0 = true := by decide +kernel
set_option maxRecDepth 65536 in
theorem w_ripe : about1.ripe theMethod args0 below0 = true := by decide +kernel
theorem w_running : about1.status = .running := rfl
set_option maxRecDepth 65536 in
theorem w_room : about1.hasRoom e0.platform room_1 = true :=
  launch0.hasRoom_least _ room_1 (by decide +kernel) (by decide +kernel) (by decide +kernel) (by decide +kernel) (by decide +kernel) (by decide +kernel)
theorem allAtoms_all (ts : List Jvm.Cond) (a : Array Jvm.Value) (st : Jvm.State) : (allAtoms ts).before a st = ts.all (fun c => c.before a st) := by
  induction ts with
  | nil => rfl
  | cons c t ih =>
    show (Jvm.Cond.and c (allAtoms t)).before a st = _
    rw [Jvm.Cond.before_and, ih, List.all_cons]
def words1 : List Jvm.Cond := Jvm.Cond.code x code maxLocals ret :: tables_1
/-- a 'code' word, met by the world's own term for the bytes: nothing is compared byte by byte -/
theorem code_word {y : MethodName} {bytes : ByteArray} {mx : Nat} {rt : Option FieldType} {a : Array Value} {s : State} {m : MethodId} {meth : Method} {c : Code} (h1 : s.methodNamed? y = some m) (h2 : s.vm.method? m = some meth) (h3 : meth.code = some c) (h4 : c.code = bytes)
    (h5 : (c.maxLocals == mx && c.exceptionTable.isEmpty && decide (c.maxStack ≤ mostOperands) && decide (meth.sig.returnType = rt) && !meth.locks && decide (parseMethodDescriptor y.desc = some meth.sig)) = true) : (Jvm.Cond.code y bytes mx rt).before a s = true := by
  simp only [Bool.and_eq_true, beq_iff_eq, Bool.not_eq_true', decide_eq_true_eq] at h5
  obtain ⟨⟨⟨⟨⟨g1, g2⟩, g3⟩, g4⟩, g5⟩, g6⟩ := h5
  simp [Cond.before, Cond.holds, Cond.value, h1, h2, h3, h4, g1, g2, g3, g4, g5, g6]
def isCode : Jvm.Cond → Bool
  | .code _ _ _ _ => true
  | _ => false
theorem all_split {L : List Jvm.Cond} {P : Jvm.Cond → Bool} (h1 : L.all (fun c => isCode c || P c) = true) (h2 : ∀ c ∈ L.filter isCode, P c = true) : L.all P = true := by
  refine List.all_eq_true.mpr fun c hc => ?_
  have h := List.all_eq_true.mp h1 c hc
  rcases Bool.eq_false_or_eq_true (isCode c) with hi | hi
  · exact h2 c (List.mem_filter.mpr ⟨hc, hi⟩)
  · simpa [hi] using h
set_option maxRecDepth 65536 in
theorem w_c0 : (Jvm.Cond.code x code maxLocals ret).before args0 about1 = true := code_word (m := ⟨1, 3⟩) (meth := k1m3) (c := k1c3) (by decide +kernel) rfl rfl rfl (by decide +kernel)
set_option maxRecDepth 65536 in
theorem w_c1 : (Jvm.Cond.code ({ cls := "com/example/borderline/borderline/Comparisons", name := "<init>", desc := "()V" } : Jvm.MethodName) prog_16_method_1_code (1 : Nat) (Option.none : Option Jvm.ClassFile.FieldType)).before args0 about1 = true := code_word (m := ⟨2, 0⟩) (meth := k2m0) (c := k2c0) (by decide +kernel) rfl rfl rfl (by decide +kernel)
set_option maxRecDepth 65536 in
theorem w_c2 : (Jvm.Cond.code ({ cls := "java/lang/Object", name := "<init>", desc := "()V" } : Jvm.MethodName) object_method_1_code (1 : Nat) (Option.none : Option Jvm.ClassFile.FieldType)).before args0 about1 = true := code_word (m := ⟨0, 0⟩) (meth := k0m0) (c := k0c0) (by decide +kernel) rfl rfl rfl (by decide +kernel)
set_option maxRecDepth 65536 in
theorem w_c3 : (Jvm.Cond.code ({ cls := "com/example/borderline/borderline/BorderTable", name := "shifted", desc := "([BLcom/example/borderline/borderline/Comparisons;)[I" } : Jvm.MethodName) prog_7_method_3_code (2 : Nat) (Option.some (Jvm.ClassFile.FieldType.array Jvm.ClassFile.FieldType.int))).before args0 about1 = true := code_word (m := ⟨3, 1⟩) (meth := k3m1) (c := k3c1) (by decide +kernel) rfl rfl rfl (by decide +kernel)
set_option maxRecDepth 65536 in
theorem w_c4 : (Jvm.Cond.code ({ cls := "com/example/borderline/borderline/Comparisons", name := "count", desc := "()J" } : Jvm.MethodName) prog_16_method_3_code (1 : Nat) (Option.some Jvm.ClassFile.FieldType.long)).before args0 about1 = true := code_word (m := ⟨2, 2⟩) (meth := k2m2) (c := k2c2) (by decide +kernel) rfl rfl rfl (by decide +kernel)
set_option maxRecDepth 65536 in
theorem w_c5 : (Jvm.Cond.code ({ cls := "java/lang/Math", name := "max", desc := "(II)I" } : Jvm.MethodName) jdk_29_method_65_code (2 : Nat) (Option.some Jvm.ClassFile.FieldType.int)).before args0 about1 = true := code_word (m := ⟨4, 1⟩) (meth := k4m1) (c := k4c1) (by decide +kernel) rfl rfl rfl (by decide +kernel)
set_option maxRecDepth 65536 in
theorem w_c6 : (Jvm.Cond.code ({ cls := "com/example/borderline/borderline/BorderTable", name := "symbolsOf", desc := "([B)Lcom/example/borderline/borderline/BorderTable$Symbols;" } : Jvm.MethodName) prog_7_method_6_code (1 : Nat) (Option.some (Jvm.ClassFile.FieldType.object "com/example/borderline/borderline/BorderTable$Symbols"))).before args0 about1 = true := code_word (m := ⟨3, 2⟩) (meth := k3m2) (c := k3c2) (by decide +kernel) rfl rfl rfl (by decide +kernel)
set_option maxRecDepth 65536 in
theorem w_c7 : (Jvm.Cond.code ({ cls := "com/example/borderline/borderline/BorderTable", name := "build", desc := "(Lcom/example/borderline/borderline/BorderTable$Symbols;ILcom/example/borderline/borderline/Comparisons;)[I" } : Jvm.MethodName) prog_7_method_8_code (8 : Nat) (Option.some (Jvm.ClassFile.FieldType.array Jvm.ClassFile.FieldType.int))).before args0 about1 = true := code_word (m := ⟨3, 3⟩) (meth := k3m3) (c := k3c3) (by decide +kernel) rfl rfl rfl (by decide +kernel)
set_option maxRecDepth 65536 in
theorem w_c8 : (Jvm.Cond.code ({ cls := "com/example/borderline/borderline/BorderTable", name := "lambda$symbolsOf$0", desc := "([BII)Z" } : Jvm.MethodName) prog_7_method_10_code (3 : Nat) (Option.some Jvm.ClassFile.FieldType.boolean)).before args0 about1 = true := code_word (m := ⟨3, 4⟩) (meth := k3m4) (c := k3c4) (by decide +kernel) rfl rfl rfl (by decide +kernel)
set_option maxRecDepth 65536 in
theorem w_c9 : (Jvm.Cond.code ({ cls := "com/example/borderline/borderline/Comparisons", name := "add", desc := "(J)V" } : Jvm.MethodName) prog_16_method_2_code (3 : Nat) (Option.none : Option Jvm.ClassFile.FieldType)).before args0 about1 = true := code_word (m := ⟨2, 1⟩) (meth := k2m1) (c := k2c1) (by decide +kernel) rfl rfl rfl (by decide +kernel)
set_option maxRecDepth 65536 in
theorem w_c10 : (Jvm.Cond.code ({ cls := "com/example/borderline/borderline/BorderTableShiftedPinLaw", name := "longest", desc := "([BI)I" } : Jvm.MethodName) method_3_code (2 : Nat) (Option.some Jvm.ClassFile.FieldType.int)).before args0 about1 = true := code_word (m := ⟨1, 2⟩) (meth := k1m2) (c := k1c2) (by decide +kernel) rfl rfl rfl (by decide +kernel)
set_option maxRecDepth 65536 in
theorem w_c11 : (Jvm.Cond.code ({ cls := "com/example/borderline/borderline/BorderTableShiftedPinLaw", name := "border", desc := "([BII)Z" } : Jvm.MethodName) method_2_code (4 : Nat) (Option.some Jvm.ClassFile.FieldType.boolean)).before args0 about1 = true := code_word (m := ⟨1, 1⟩) (meth := k1m1) (c := k1c1) (by decide +kernel) rfl rfl rfl (by decide +kernel)
def codes1 : List Jvm.Cond := [Jvm.Cond.code x code maxLocals ret, Jvm.Cond.code ({ cls := "com/example/borderline/borderline/Comparisons", name := "<init>", desc := "()V" } : Jvm.MethodName) prog_16_method_1_code (1 : Nat) (Option.none : Option Jvm.ClassFile.FieldType), Jvm.Cond.code ({ cls := "java/lang/Object", name := "<init>", desc := "()V" } : Jvm.MethodName) object_method_1_code (1 : Nat) (Option.none : Option Jvm.ClassFile.FieldType), Jvm.Cond.code ({ cls := "com/example/borderline/borderline/BorderTable", name := "shifted", desc := "([BLcom/example/borderline/borderline/Comparisons;)[I" } : Jvm.MethodName) prog_7_method_3_code (2 : Nat) (Option.some (Jvm.ClassFile.FieldType.array Jvm.ClassFile.FieldType.int)), Jvm.Cond.code ({ cls := "com/example/borderline/borderline/Comparisons", name := "count", desc := "()J" } : Jvm.MethodName) prog_16_method_3_code (1 : Nat) (Option.some Jvm.ClassFile.FieldType.long), Jvm.Cond.code ({ cls := "java/lang/Math", name := "max", desc := "(II)I" } : Jvm.MethodName) jdk_29_method_65_code (2 : Nat) (Option.some Jvm.ClassFile.FieldType.int), Jvm.Cond.code ({ cls := "com/example/borderline/borderline/BorderTable", name := "symbolsOf", desc := "([B)Lcom/example/borderline/borderline/BorderTable$Symbols;" } : Jvm.MethodName) prog_7_method_6_code (1 : Nat) (Option.some (Jvm.ClassFile.FieldType.object "com/example/borderline/borderline/BorderTable$Symbols")), Jvm.Cond.code ({ cls := "com/example/borderline/borderline/BorderTable", name := "build", desc := "(Lcom/example/borderline/borderline/BorderTable$Symbols;ILcom/example/borderline/borderline/Comparisons;)[I" } : Jvm.MethodName) prog_7_method_8_code (8 : Nat) (Option.some (Jvm.ClassFile.FieldType.array Jvm.ClassFile.FieldType.int)), Jvm.Cond.code ({ cls := "com/example/borderline/borderline/BorderTable", name := "lambda$symbolsOf$0", desc := "([BII)Z" } : Jvm.MethodName) prog_7_method_10_code (3 : Nat) (Option.some Jvm.ClassFile.FieldType.boolean), Jvm.Cond.code ({ cls := "com/example/borderline/borderline/Comparisons", name := "add", desc := "(J)V" } : Jvm.MethodName) prog_16_method_2_code (3 : Nat) (Option.none : Option Jvm.ClassFile.FieldType), Jvm.Cond.code ({ cls := "com/example/borderline/borderline/BorderTableShiftedPinLaw", name := "longest", desc := "([BI)I" } : Jvm.MethodName) method_3_code (2 : Nat) (Option.some Jvm.ClassFile.FieldType.int), Jvm.Cond.code ({ cls := "com/example/borderline/borderline/BorderTableShiftedPinLaw", name := "border", desc := "([BII)Z" } : Jvm.MethodName) method_2_code (4 : Nat) (Option.some Jvm.ClassFile.FieldType.boolean)]
set_option maxRecDepth 65536 in
theorem codes_eq : words1.filter isCode = codes1 := rfl
theorem w_codes : ∀ c ∈ words1.filter isCode, c.before args0 about1 = true := by
  rw [codes_eq]
  intro c hc
  simp only [codes1, List.mem_cons, List.not_mem_nil, or_false] at hc
  rcases hc with rfl | rfl | rfl | rfl | rfl | rfl | rfl | rfl | rfl | rfl | rfl | rfl
  · exact w_c0
  · exact w_c1
  · exact w_c2
  · exact w_c3
  · exact w_c4
  · exact w_c5
  · exact w_c6
  · exact w_c7
  · exact w_c8
  · exact w_c9
  · exact w_c10
  · exact w_c11
set_option maxRecDepth 65536 in
theorem w_t1 : (words1.take 24).all (fun c => isCode c || c.before args0 about1) = true := by decide +kernel
set_option maxRecDepth 65536 in
theorem w_t2 : ((words1.drop 24).take 24).all (fun c => isCode c || c.before args0 about1) = true := by decide +kernel
set_option maxRecDepth 65536 in
theorem w_t3 : ((words1.drop 24).drop 24).all (fun c => isCode c || c.before args0 about1) = true := by decide +kernel
theorem w_tables : (allAtoms (Jvm.Cond.code x code maxLocals ret :: tables_1)).before args0 about1 = true := by
  rw [allAtoms_all]
  show words1.all (fun c => c.before args0 about1) = true
  refine all_split ?_ w_codes
  rw [← List.take_append_drop 24 words1, List.all_append, w_t1, ← List.take_append_drop 24 (words1.drop 24), List.all_append, w_t2, w_t3]
  rfl
set_option maxRecDepth 65536 in
theorem w_case : (Jvm.Cond.and given_1 narrow_1).before args0 about1 = true := by decide +kernel
theorem w_applies : (headSpec (Jvm.Cond.code x code maxLocals ret :: tables_1) room_1).applies x e0.platform about1 = true :=
  (Spec.applies_iff w_frames).mpr ⟨w_running, w_runnable, w_alone, w_named, w_hears, w_ripe, w_room, w_tables⟩
theorem atStart : AtStart classFile x code maxLocals ret World_1 tables_1 room_1 Calls_1 rest_1 Pre_1 launch0 p0 e0 about1 theMethod args0 below0 :=
  ⟨lists_1, trivial, launch0.admits_env _ _ _, launch0.least_env, fairChoices_fair.cas, fairChoices_fair.clock, w_frames, w_args, w_heap, w_applies, trivial, trivial, w_case⟩
end start1
theorem witness_1 : WitnessClaimed_1 := ⟨start1.p0, start1.e0, start1.about1, start1.theMethod, start1.args0, start1.below0, start1.atStart⟩
end Jvm.Pilot.@@N@@
