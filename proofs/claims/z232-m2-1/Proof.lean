import JvmDerived
import JvmDerived.Pilot.@@N@@Statement
import JvmDerived.Pilot.@@N@@Code
set_option linter.unusedVariables false
set_option linter.unusedSimpArgs false
namespace Jvm.Pilot.@@N@@
open Jvm Jvm.ClassFile Sem Op Lib Jvm.Free Jvm.Stand Jvm.LawKit Jvm.RoadKit Bundle Jvm.Pilot.@@N@@.Jvm.D
abbrev sF (T : State) (m : MethodId) (pc : Nat) (Ls : Array Slot) (st : List Value) : State := T.setTop (mkF m pc Ls st)
/-- from F the run goes on to the method's end, and W holds there -/
def Goes (p : Program) (e : Env) (below : List Frame) (W : Outcome → State → Prop) (F : State) : Prop := ∃ s₂ o, Steps p.tables e below F s₂ ∧ s₂.status = .running ∧ Ended s₂ below o ∧ W o s₂
theorem Goes.step {p : Program} {e : Env} {below : List Frame} {W : Outcome → State → Prop} {F F' : State} (g : Goes p e below W F') (h : ∀ t, Steps p.tables e below F' t → Steps p.tables e below F t) : Goes p e below W F := by
  obtain ⟨s₂, o, h1, h2⟩ := g
  exact ⟨s₂, o, h _ h1, h2⟩
section Fin
variable {p : Program} {l : Launch} {e : Env} {R : Room} {s : State} {m : MethodId} {args : Array Value} {below : List Frame} {meth : Method} {c : Code} {T : State} {locs : List Loc} {cells slots : Nat}
theorem own_out (X : Stand p l e R s m args below meth c T locs cells slots) (hx : p.tables.exec = Jvm.exec) (hlk : meth.locks = false) {pc : Nat} {Ls : Array Slot} {w : Value} {t : FieldType} {i : Instr} {rest : List Value} {P : Option Value → Heap → List Loc → Prop} {C N : Nat} (hret : meth.sig.returnType = some t) (hn : narrow t w = w)
    (hi : (i = .ireturn ∧ (t = .int ∨ t = .boolean ∨ t = .byte ∨ t = .char ∨ t = .short) ∧ ∃ z, w = .int z) ∨ (i = .lreturn ∧ t = .long ∧ ∃ z, w = .long z) ∨ (i = .dreturn ∧ t = .double ∧ ∃ z, w = .double z) ∨ (i = .freturn ∧ t = .float ∧ ∃ z, w = .float z) ∨ (i = .areturn ∧ t.isReference = true ∧ w.isRef = true))
    (hd : decode c.code pc = .ok (i, 1)) (hP : P (some w) T.heap locs) (hC : cells ≤ C) (hN : slots ≤ N) :
    Goes p e below (fun o U' => ∃ v L, o = .returned v ∧ P v U'.heap L ∧ FrameEnd s o U' L C N) (T.setTop (mkF m pc Ls (w :: rest))) := by
  obtain ⟨fs, hr, hrun, hended, hW, hsame⟩ := X.leave (v := some w) (fun h => by rw [hret] at h; cases h)
  exact ⟨_, _, retOut X hx hret hn hi hd hr, hrun, hended, _, _, rfl, hP, ⟨_, rfl⟩, hW, hsame.mono hC hN⟩
theorem own_outV (X : Stand p l e R s m args below meth c T locs cells slots) (hx : p.tables.exec = Jvm.exec) (hlk : meth.locks = false) {pc : Nat} {Ls : Array Slot} {P : Option Value → Heap → List Loc → Prop} {C N : Nat} (hret : meth.sig.returnType = none)
    (hd : decode c.code pc = .ok (.return_, 1)) (hP : P none T.heap locs) (hC : cells ≤ C) (hN : slots ≤ N) :
    Goes p e below (fun o U' => ∃ v L, o = .returned v ∧ P v U'.heap L ∧ FrameEnd s o U' L C N) (T.setTop (mkF m pc Ls [])) := by
  obtain ⟨fs, hr, hrun, hended, hW, hsame⟩ := X.leave (v := none) (fun _ => rfl)
  exact ⟨_, _, X.returnOut hx hret hd hr, hrun, hended, _, _, rfl, hP, ⟨_, rfl⟩, hW, hsame.mono hC hN⟩
theorem own_outW {vm₁ : Vm} {n : Nat} (X : Stand p l e R (s.setVm vm₁) m args below meth c T locs cells slots) (hS : s.Since vm₁ n) (hn : n ≤ T.heap.size) (hx : p.tables.exec = Jvm.exec) (hlk : meth.locks = false) {pc : Nat} {Ls : Array Slot} {w : Value} {t : FieldType} {i : Instr} {rest : List Value} {P : Option Value → Heap → List Loc → Prop} {C N : Nat} (hret : meth.sig.returnType = some t) (hnw : narrow t w = w)
    (hi : (i = .ireturn ∧ (t = .int ∨ t = .boolean ∨ t = .byte ∨ t = .char ∨ t = .short) ∧ ∃ z, w = .int z) ∨ (i = .lreturn ∧ t = .long ∧ ∃ z, w = .long z) ∨ (i = .dreturn ∧ t = .double ∧ ∃ z, w = .double z) ∨ (i = .freturn ∧ t = .float ∧ ∃ z, w = .float z) ∨ (i = .areturn ∧ t.isReference = true ∧ w.isRef = true))
    (hd : decode c.code pc = .ok (i, 1)) (hP : P (some w) T.heap locs) (hC : cells ≤ C) (hN : slots ≤ N) :
    Goes p e below (fun o U' => ∃ v L, o = .returned v ∧ P v U'.heap L ∧ ReturnedEndW s o U' L C N) (T.setTop (mkF m pc Ls (w :: rest))) := by
  obtain ⟨fs, hr, hrun, hended, h1, h2, h3, h4⟩ := X.leaveW hS hn (v := some w) (fun h => by rw [hret] at h; cases h)
  exact ⟨_, _, retOut X hx hret hnw hi hd hr, hrun, hended, _, _, rfl, hP, h1, h2, h3, h4.mono hC hN⟩
theorem own_outVW {vm₁ : Vm} {n : Nat} (X : Stand p l e R (s.setVm vm₁) m args below meth c T locs cells slots) (hS : s.Since vm₁ n) (hn : n ≤ T.heap.size) (hx : p.tables.exec = Jvm.exec) (hlk : meth.locks = false) {pc : Nat} {Ls : Array Slot} {P : Option Value → Heap → List Loc → Prop} {C N : Nat} (hret : meth.sig.returnType = none)
    (hd : decode c.code pc = .ok (.return_, 1)) (hP : P none T.heap locs) (hC : cells ≤ C) (hN : slots ≤ N) :
    Goes p e below (fun o U' => ∃ v L, o = .returned v ∧ P v U'.heap L ∧ ReturnedEndW s o U' L C N) (T.setTop (mkF m pc Ls [])) := by
  obtain ⟨fs, hr, hrun, hended, h1, h2, h3, h4⟩ := X.leaveW hS hn (v := none) (fun _ => rfl)
  exact ⟨_, _, X.returnOut hx hret hd hr, hrun, hended, _, _, rfl, hP, h1, h2, h3, h4.mono hC hN⟩
theorem own_lrem {g : JFrame} {target : State} (X : Stand p l e R s m args below meth c T locs cells slots) (hx : p.tables.exec = Jvm.exec) (hg : g.method = m) {x y : Int64} {rest : List Value} (hd : decode c.code g.pc = .ok (.lrem, 1)) (hs : g.stack = .long y :: .long x :: rest) (hy : y ≠ 0)
    (hr : Steps p.tables e below (T.setTop { g with pc := g.pc + 1, stack := .long (x % y) :: rest }) target) : Steps p.tables e below (T.setTop g) target := by
  have q : x - x / y * y = x % y := lrem_mod x y
  exact XS.lrem X.here hx hg hd hs hy (by rw [q]; exact hr)
end Fin
def clientV (nt : Int32) (a w13 w14 : Addr) : Int32 := if nt = 0 then 0 else if a = w13 then 0 else if a = w14 then 0 else 1
def expV (i : Int32) : Int32 := if i < 4 then (if i = 15 then 1 else if i = 16 then 1 else 0) else if 12 < i then (if i = 15 then 1 else if i = 16 then 1 else 0) else 1
theorem pn_org_serialis_net_Protocol_Request : plainName "org/serialis/net/Protocol$Request" = true := by first | (simp [plainName, overriddenIn]; done) | decide +kernel
theorem ef_rm1 (m : MethodId) (x0 : Addr) : entryFrame m #[(.ref x0)] 1 = mkF m 0 #[rv x0] [] := by first | (simp [entryFrame, mkF, argsToLocals, Value.category]; done) | rfl
def Q2 (Z : State) (r : Int32) (h0 : Heap) (n0 : Nat) (v : Option Value) (h : Heap) (L : List Loc) : Prop := v = some (.int r) ∧ Fr n0 L ∧ h = h0
theorem d1_0 : decode prog_76_method_6_code 0 = .ok (.aload_n 0, 1) := by decide +kernel
theorem d1_1 : decode prog_76_method_6_code 1 = .ok (.getfield 121, 3) := by decide +kernel
theorem d1_4 : decode prog_76_method_6_code 4 = .ok (.ifCond .eq 21, 3) := by decide +kernel
theorem d1_25 : decode prog_76_method_6_code 25 = .ok (.iconst 0, 1) := by decide +kernel
theorem d1_26 : decode prog_76_method_6_code 26 = .ok (.ireturn, 1) := by decide +kernel
theorem d1_7 : decode prog_76_method_6_code 7 = .ok (.aload_n 0, 1) := by decide +kernel
theorem d1_8 : decode prog_76_method_6_code 8 = .ok (.getstatic 43, 3) := by decide +kernel
theorem d1_11 : decode prog_76_method_6_code 11 = .ok (.if_acmp .eq 14, 3) := by decide +kernel
theorem d1_14 : decode prog_76_method_6_code 14 = .ok (.aload_n 0, 1) := by decide +kernel
theorem d1_15 : decode prog_76_method_6_code 15 = .ok (.getstatic 46, 3) := by decide +kernel
theorem d1_18 : decode prog_76_method_6_code 18 = .ok (.if_acmp .eq 7, 3) := by decide +kernel
theorem d1_21 : decode prog_76_method_6_code 21 = .ok (.iconst 1, 1) := by decide +kernel
theorem d1_22 : decode prog_76_method_6_code 22 = .ok (.goto 4, 3) := by decide +kernel
set_option maxRecDepth 65536 in
set_option maxHeartbeats 40000000 in
theorem rm1 (l : Launch) (Z : State) (a0 : Array Value) (hw : ∀ d ∈ tables_1, d.before a0 Z = true) (ws : List Jvm.Cond) (a1 : Addr) (nt : Int32) (w13 : Addr) (w14 : Addr) (r : Int32) (h0 : Heap) (n0 : Nat) (Z0 : n0 ≤ h0.size) (F_a : Fld Z h0 a1 "org/serialis/net/Protocol$Request" "namesTransaction" "Z" (.int nt)) (S_OUTCOME : Sta Z h0 "org/serialis/net/Protocol$Request" "OUTCOME" "Lorg/serialis/net/Protocol$Request;" (.ref w13)) (S_SETTLE : Sta Z h0 "org/serialis/net/Protocol$Request" "SETTLE" "Lorg/serialis/net/Protocol$Request;" (.ref w14)) (hr : clientV nt a1 w13 w14 = r) :
    MetFree l (⟨"org/serialis/net/Protocol$Request", "isByClient", "()Z"⟩ : MethodName) (head1 (Jvm.Cond.code (⟨"org/serialis/net/Protocol$Request", "isByClient", "()Z"⟩ : MethodName) prog_76_method_6_code 1 (some .boolean) :: ws) ({ frames := 0, cells := 0, slots := 0, locals := 0 } : Room)) (fun a U => a = #[(.ref a1)] ∧ Z.Warmed39 U.vm ∧ U.heap = h0) (fun _ _ _ _ _ => True) (fun _ U o U' => ∃ v L, o = .returned v ∧ Q2 Z r h0 n0 v U'.heap L ∧ FrameEnd U o U' L ({ frames := 0, cells := 0, slots := 0, locals := 0 } : Room).cells ({ frames := 0, cells := 0, slots := 0, locals := 0 } : Room).slots) := by
  refine MetFree.of_bodySF (plainFor_of_name pn_org_serialis_net_Protocol_Request) hisR ?_
  intro p e s m args below meth c s₁ Bd hml0 hP hK
  obtain ⟨rfl, hZ, hh⟩ := hP
  have hx := Bd.exec
  have hby := Bd.bytes
  have hlk : meth.locks = false := BodyLoose.notSynchronized Bd
  have hml : c.maxLocals = 1 := hml0
  have hown : s.vm.findClass "org/serialis/net/Protocol$Request" = some m.cls := findClass_of_methodNamed Bd.named
  have hnm := (name_of_methodNamed Bd.named Bd.method).1
  have X0 : Stand p l e ({ frames := 0, cells := 0, slots := 0, locals := 0 } : Room) s m #[(.ref a1)] below meth c s₁ [] 0 0 := Stand.of_body Bd
  have e0 : s₁.heap = h0 := by rw [← hh, Bd.state]; rfl
  have N0 := Fr.nil n0
  have hret := Bd.returns
  show Goes p e below (fun o U' => ∃ v L, o = .returned v ∧ Q2 Z r h0 n0 v U'.heap L ∧ FrameEnd s o U' L ({ frames := 0, cells := 0, slots := 0, locals := 0 } : Room).cells ({ frames := 0, cells := 0, slots := 0, locals := 0 } : Room).slots) (s₁.setTop (entryFrame m #[(.ref a1)] 1))
  refine Goes.step ?_ (fun _ k => castTop (ef_rm1 m a1) k)
  show Goes p e below _ (sF s₁ m 0 #[rv a1] [])
  refine Goes.step ?_ (fun _ k => XS.aloadN X0.here hx rfl (hb hby d1_0) rfl rfl k)
  show Goes p e below _ (sF s₁ m 1 #[rv a1] [(.ref a1)])
  obtain ⟨T1, X1, e1, st1⟩ := getF X0 hx hZ hown (host := "") (Or.inl (hw _ (List.mem_of_getElem? (i := 50) rfl))) Via.refl e0 F_a (g := (mkF m 1 #[rv a1] [(.ref a1)])) rfl rfl (hb hby d1_1)
  refine Goes.step ?_ st1
  show Goes p e below _ (sF T1 m 4 #[rv a1] [(.int nt)])
  by_cases hc4_2 : nt = (0 : Int32)
  · refine Goes.step ?_ (fun _ k => XS.ifYes X1.here hx rfl (pc0 := 4) (pc' := 25) rfl (hb hby d1_4) rfl ((if0 _ _).trans (teq hc4_2).1) (by decide) (by decide) k)
    show Goes p e below _ (sF T1 m 25 #[rv a1] [])
    refine Goes.step ?_ (fun _ k => XS.iconst X1.here hx rfl (hb hby d1_25) k)
    show Goes p e below _ (sF T1 m 26 #[rv a1] [(.int (0 : Int32))])
    refine own_out X1 hx hlk hret rfl (Or.inl ⟨rfl, by simp, _, rfl⟩) (hb hby d1_26) ?_ (by decide) (by decide)
    show Q2 Z r h0 n0 _ T1.heap _
    rw [e1]
    exact ⟨by rw [← hr]; simp [clientV, hc4_2], N0, rfl⟩
  · refine Goes.step ?_ (fun _ k => XS.ifNo X1.here hx rfl (hb hby d1_4) rfl ((if0 _ _).trans (feq hc4_2).1) k)
    show Goes p e below _ (sF T1 m 7 #[rv a1] [])
    refine Goes.step ?_ (fun _ k => XS.aloadN X1.here hx rfl (hb hby d1_7) rfl rfl k)
    show Goes p e below _ (sF T1 m 8 #[rv a1] [(.ref a1)])
    obtain ⟨T3, X3, e3, st3⟩ := getS2 X1 hx hZ hown (host := "") (Or.inl (hw _ (List.mem_of_getElem? (i := 52) rfl))) Via.refl e1 S_OUTCOME (g := (mkF m 8 #[rv a1] [(.ref a1)])) rfl (hb hby d1_8)
    refine Goes.step ?_ st3
    show Goes p e below _ (sF T3 m 11 #[rv a1] [(.ref w13), (.ref a1)])
    by_cases ha11_4 : a1 = w13
    · refine Goes.step ?_ (fun _ k => Jvm.RoadKit.acmp (g := (mkF m 11 #[rv a1] [(.ref w13), (.ref a1)])) X3 hx rfl rfl rfl (pc0 := 11) (pc' := 25) (same := true) rfl (hb hby d1_11) rfl (decide_eq_true (congrArg Value.ref ha11_4)) (by decide) (by decide) k)
      show Goes p e below _ (sF T3 m 25 #[rv a1] [])
      refine Goes.step ?_ (fun _ k => XS.iconst X3.here hx rfl (hb hby d1_25) k)
      show Goes p e below _ (sF T3 m 26 #[rv a1] [(.int (0 : Int32))])
      refine own_out X3 hx hlk hret rfl (Or.inl ⟨rfl, by simp, _, rfl⟩) (hb hby d1_26) ?_ (by decide) (by decide)
      show Q2 Z r h0 n0 _ T3.heap _
      rw [e3]
      exact ⟨by rw [← hr]; simp [clientV, hc4_2, ha11_4], N0, rfl⟩
    · refine Goes.step ?_ (fun _ k => Jvm.RoadKit.acmp (g := (mkF m 11 #[rv a1] [(.ref w13), (.ref a1)])) X3 hx rfl rfl rfl (pc0 := 11) (pc' := 14) (same := false) rfl (hb hby d1_11) rfl (decide_eq_false fun q => ha11_4 (Value.ref.inj q)) (by decide) (by decide) k)
      show Goes p e below _ (sF T3 m 14 #[rv a1] [])
      refine Goes.step ?_ (fun _ k => XS.aloadN X3.here hx rfl (hb hby d1_14) rfl rfl k)
      show Goes p e below _ (sF T3 m 15 #[rv a1] [(.ref a1)])
      obtain ⟨T5, X5, e5, st5⟩ := getS2 X3 hx hZ hown (host := "") (Or.inl (hw _ (List.mem_of_getElem? (i := 53) rfl))) Via.refl e3 S_SETTLE (g := (mkF m 15 #[rv a1] [(.ref a1)])) rfl (hb hby d1_15)
      refine Goes.step ?_ st5
      show Goes p e below _ (sF T5 m 18 #[rv a1] [(.ref w14), (.ref a1)])
      by_cases ha18_6 : a1 = w14
      · refine Goes.step ?_ (fun _ k => Jvm.RoadKit.acmp (g := (mkF m 18 #[rv a1] [(.ref w14), (.ref a1)])) X5 hx rfl rfl rfl (pc0 := 18) (pc' := 25) (same := true) rfl (hb hby d1_18) rfl (decide_eq_true (congrArg Value.ref ha18_6)) (by decide) (by decide) k)
        show Goes p e below _ (sF T5 m 25 #[rv a1] [])
        refine Goes.step ?_ (fun _ k => XS.iconst X5.here hx rfl (hb hby d1_25) k)
        show Goes p e below _ (sF T5 m 26 #[rv a1] [(.int (0 : Int32))])
        refine own_out X5 hx hlk hret rfl (Or.inl ⟨rfl, by simp, _, rfl⟩) (hb hby d1_26) ?_ (by decide) (by decide)
        show Q2 Z r h0 n0 _ T5.heap _
        rw [e5]
        exact ⟨by rw [← hr]; simp [clientV, hc4_2, ha11_4, ha18_6], N0, rfl⟩
      · refine Goes.step ?_ (fun _ k => Jvm.RoadKit.acmp (g := (mkF m 18 #[rv a1] [(.ref w14), (.ref a1)])) X5 hx rfl rfl rfl (pc0 := 18) (pc' := 21) (same := false) rfl (hb hby d1_18) rfl (decide_eq_false fun q => ha18_6 (Value.ref.inj q)) (by decide) (by decide) k)
        show Goes p e below _ (sF T5 m 21 #[rv a1] [])
        refine Goes.step ?_ (fun _ k => XS.iconst X5.here hx rfl (hb hby d1_21) k)
        show Goes p e below _ (sF T5 m 22 #[rv a1] [(.int (1 : Int32))])
        refine Goes.step ?_ (fun _ k => XS.goto X5.here hx rfl (pc0 := 22) (pc' := 26) rfl (hb hby d1_22) (by decide) (by decide) k)
        show Goes p e below _ (sF T5 m 26 #[rv a1] [(.int (1 : Int32))])
        refine own_out X5 hx hlk hret rfl (Or.inl ⟨rfl, by simp, _, rfl⟩) (hb hby d1_26) ?_ (by decide) (by decide)
        show Q2 Z r h0 n0 _ T5.heap _
        rw [e5]
        exact ⟨by rw [← hr]; simp [clientV, hc4_2, ha11_4, ha18_6], N0, rfl⟩
def Q0 (n0 : Nat) (v : Option Value) (h : Heap) (L : List Loc) : Prop := v = some (.int 1) ∧ Fr n0 L
theorem pd__28_29Z : parseMethodDescriptor "()Z" = some ⟨[], some .boolean⟩ := by decide +kernel
set_option maxRecDepth 65536 in
set_option maxHeartbeats 40000000 in
theorem t177 {p : Program} {l : Launch} {e : Env} {s : State} {m : MethodId} {args : Array Value} {below : List Frame} {meth : Method} {c : Code} {T0 : State} {locs : List Loc} {Z : State} {a0 : Array Value} {h0 : Heap} {n0 : Nat} (p1 : Int32) (ob : Addr) (kk : ClassId) (vs : List Value) (ix : Int32) (a : Addr) (nt : Int32) (r : Int32) (w13 : Addr) (w14 : Addr) (ex : Int32)
    (X0 : Stand p l e room_1 s m args below meth c T0 locs (0 + 1) (0 + 20)) (hx : p.tables.exec = Jvm.exec) (hZ : Z.Warmed39 s.vm) (hw : ∀ d ∈ tables_1, d.before a0 Z = true) (hby : c.code = code) (hlk : meth.locks = false) (hret : meth.sig.returnType = some .boolean) (hml : c.maxLocals = 4) (hown : s.vm.findClass "org/serialis/net/RequestIsByClientPinLaw" = some m.cls) (e0 : T0.heap = h0) (N0 : Fr n0 locs) (Z0 : n0 ≤ h0.size) (O0 : Old Z n0 h0) (V_ob : Arv Z h0 ob kk ((.object "org/serialis/net/Protocol$Request")) (20 : Int32) vs .null) (S_OUTCOME : Sta Z Z.heap "org/serialis/net/Protocol$Request" "OUTCOME" "Lorg/serialis/net/Protocol$Request;" (.ref w13)) (S_SETTLE : Sta Z Z.heap "org/serialis/net/Protocol$Request" "SETTLE" "Lorg/serialis/net/Protocol$Request;" (.ref w14)) (E_a : Exa Z Z.heap a "org/serialis/net/Protocol$Request") (F_a : Fld Z Z.heap a "org/serialis/net/Protocol$Request" "namesTransaction" "Z" (.int nt)) (hge : ¬ ix < 0 ∧ ix < 20) (hel : vs.getD (ix).toNatClampNeg .null = .ref a) (hcl : clientV nt a w13 w14 = r) (hex : r = ex) :
    Goes p e below (fun o U' => ∃ v L, o = .returned v ∧ Q0 n0 v U'.heap L ∧ FrameEnd s o U' L room_1.cells room_1.slots) (T0.setTop (mkF m 177 #[iv p1, rv ob, iv ix, iv ex] [])) := by
  show Goes p e below _ (sF T0 m 177 #[iv p1, rv ob, iv ix, iv ex] [])
  refine Goes.step ?_ (fun _ k => XS.aloadN X0.here hx rfl (hb hby at_177) rfl rfl k)
  show Goes p e below _ (sF T0 m 178 #[iv p1, rv ob, iv ix, iv ex] [(.ref ob)])
  refine Goes.step ?_ (fun _ k => XS.iloadN X0.here hx rfl (hb hby at_178) rfl  k)
  show Goes p e below _ (sF T0 m 179 #[iv p1, rv ob, iv ix, iv ex] [(.int ix), (.ref ob)])
  obtain ⟨cl1, Ar1, q1, S1, N_1, H1, G1⟩ := id V_ob
  have hin2 : ¬ (ix < 0 ∨ cl1.slots.size ≤ (ix).toNatClampNeg) := inb_of S1 hge
  have hat2 : cl1.slots[(ix).toNatClampNeg]? = some (.ref a) := H1.at hin2 hel
  refine Goes.step ?_ (fun _ k => X0.aaload hx (j := ix) (v := (.ref a)) (by rw [e0]; exact Ar1.1) (State.isArrayOf_alike hZ.alike Ar1.2.1) rfl Ar1.2.2 hin2 hat2 (g := (mkF m 179 #[iv p1, rv ob, iv ix, iv ex] [(.int ix), (.ref ob)])) rfl rfl (hb hby at_179) _ k)
  show Goes p e below _ (sF T0 m 180 #[iv p1, rv ob, iv ix, iv ex] [(.ref a)])
  obtain ⟨cq3, kq3, q3a, q3b, q3c⟩ := isOf hZ e0 (E_a.ext O0.2)
  obtain ⟨_, _, ⟨T3, L3, k3, n3⟩, -, X3, ⟨Lc3, hQ3, l3, y3, z3⟩, st3⟩ := X0.virtualBack hx (y := (⟨"org/serialis/net/Protocol$Request", "isByClient", "()Z"⟩ : MethodName)) (z := (⟨"org/serialis/net/Protocol$Request", "isByClient", "()Z"⟩ : MethodName)) hown (mvT hZ (hw _ (List.mem_of_getElem? (i := 45) rfl))) (mvT hZ (hw _ (List.mem_of_getElem? (i := 46) rfl))) (notFace_of_selects (args := #[]) (mvT hZ (hw _ (List.mem_of_getElem? (i := 48) rfl)))) (mvT hZ (hw _ (List.mem_of_getElem? (i := 48) rfl))) (mvT hZ (hw _ (List.mem_of_getElem? (i := 47) rfl))) (by decide) (backOf (W := 0) (rm1 l Z a0 hw [] a nt w13 w14 r h0 n0 Z0 (F_a.ext O0.2) (S_OUTCOME.ext O0.2) (S_SETTLE.ext O0.2) hcl) hZ (hw _ (List.mem_of_getElem? (i := 49) rfl)) (hw _ (List.mem_of_getElem? (i := 3) rfl)) (by decide) (by decide)) q3a q3c (g := (mkF m 180 #[iv p1, rv ob, iv ix, iv ex] [(.ref a)])) rfl (by rw [hml]; rfl) (Steps.refl _) (argsL := []) (rest := []) (lenOf pd__28_29Z rfl) rfl (by show 2 * 0 + _ ≤ _; exact Nat.le_of_eq rfl) (hb hby at_180) (fun _ _ => ⟨rfl, e0, (by decide : 0 + 1 + 0 ≤ _), (by decide : 0 + 20 + 0 ≤ _)⟩)
  dsimp only [Pt.U, Pt.locs, Pt.cells, Pt.slots] at X3 l3 y3 z3 st3 hQ3
  subst l3 y3 z3
  obtain ⟨rfl, N3q, e3⟩ := hQ3
  have N3 := Fr.app N0 N3q
  refine Goes.step ?_ (fun _ k => st3.trans k)
  show Goes p e below _ (sF T3 m 183 #[iv p1, rv ob, iv ix, iv ex] [(.int r)])
  refine Goes.step ?_ (fun _ k => XS.iloadN X3.here hx rfl (hb hby at_183) rfl  k)
  show Goes p e below _ (sF T3 m 184 #[iv p1, rv ob, iv ix, iv ex] [(.int ex), (.int r)])
  refine Goes.step ?_ (fun _ k => XS.icmpNo X3.here hx rfl (hb hby at_184) rfl (teq hex).2 k)
  show Goes p e below _ (sF T3 m 187 #[iv p1, rv ob, iv ix, iv ex] [])
  refine Goes.step ?_ (fun _ k => XS.iconst X3.here hx rfl (hb hby at_187) k)
  show Goes p e below _ (sF T3 m 188 #[iv p1, rv ob, iv ix, iv ex] [(.int (1 : Int32))])
  refine Goes.step ?_ (fun _ k => XS.goto X3.here hx rfl (pc0 := 188) (pc' := 192) rfl (hb hby at_188) (by decide) (by decide) k)
  show Goes p e below _ (sF T3 m 192 #[iv p1, rv ob, iv ix, iv ex] [(.int (1 : Int32))])
  refine own_out X3 hx hlk hret rfl (Or.inl ⟨rfl, by simp, _, rfl⟩) (hb hby at_192) ?_ (by decide) (by decide)
  show Q0 n0 _ T3.heap _
  rw [e3]
  exact ⟨rfl, N3⟩
set_option maxRecDepth 65536 in
set_option maxHeartbeats 40000000 in
theorem t148 {p : Program} {l : Launch} {e : Env} {s : State} {m : MethodId} {args : Array Value} {below : List Frame} {meth : Method} {c : Code} {T0 : State} {locs : List Loc} {Z : State} {a0 : Array Value} {h0 : Heap} {n0 : Nat} (p1 : Int32) (ob : Addr) (kk : ClassId) (vs : List Value) (ix : Int32) (a : Addr) (nt : Int32) (r : Int32) (w13 : Addr) (w14 : Addr)
    (X0 : Stand p l e room_1 s m args below meth c T0 locs (0 + 1) (0 + 20)) (hx : p.tables.exec = Jvm.exec) (hZ : Z.Warmed39 s.vm) (hw : ∀ d ∈ tables_1, d.before a0 Z = true) (hby : c.code = code) (hlk : meth.locks = false) (hret : meth.sig.returnType = some .boolean) (hml : c.maxLocals = 4) (hown : s.vm.findClass "org/serialis/net/RequestIsByClientPinLaw" = some m.cls) (e0 : T0.heap = h0) (N0 : Fr n0 locs) (Z0 : n0 ≤ h0.size) (O0 : Old Z n0 h0) (V_ob : Arv Z h0 ob kk ((.object "org/serialis/net/Protocol$Request")) (20 : Int32) vs .null) (S_OUTCOME : Sta Z Z.heap "org/serialis/net/Protocol$Request" "OUTCOME" "Lorg/serialis/net/Protocol$Request;" (.ref w13)) (S_SETTLE : Sta Z Z.heap "org/serialis/net/Protocol$Request" "SETTLE" "Lorg/serialis/net/Protocol$Request;" (.ref w14)) (E_a : Exa Z Z.heap a "org/serialis/net/Protocol$Request") (F_a : Fld Z Z.heap a "org/serialis/net/Protocol$Request" "namesTransaction" "Z" (.int nt)) (hge : ¬ ix < 0 ∧ ix < 20) (hel : vs.getD (ix).toNatClampNeg .null = .ref a) (hcl : clientV nt a w13 w14 = r) (hexp : expV ix = r) :
    Goes p e below (fun o U' => ∃ v L, o = .returned v ∧ Q0 n0 v U'.heap L ∧ FrameEnd s o U' L room_1.cells room_1.slots) (T0.setTop (mkF m 148 #[iv p1, rv ob, iv ix, .unset] [])) := by
  show Goes p e below _ (sF T0 m 148 #[iv p1, rv ob, iv ix, .unset] [])
  refine Goes.step ?_ (fun _ k => XS.iloadN X0.here hx rfl (hb hby at_148) rfl  k)
  show Goes p e below _ (sF T0 m 149 #[iv p1, rv ob, iv ix, .unset] [(.int ix)])
  refine Goes.step ?_ (fun _ k => XS.iconst X0.here hx rfl (hb hby at_149) k)
  show Goes p e below _ (sF T0 m 150 #[iv p1, rv ob, iv ix, .unset] [(.int (4 : Int32)), (.int ix)])
  by_cases hc150_1 : ix < (4 : Int32)
  · refine Goes.step ?_ (fun _ k => XS.icmpYes X0.here hx rfl (pc0 := 150) (pc' := 159) rfl (hb hby at_150) rfl (tlt hc150_1).1 (by decide) (by decide) k)
    show Goes p e below _ (sF T0 m 159 #[iv p1, rv ob, iv ix, .unset] [])
    refine Goes.step ?_ (fun _ k => XS.iloadN X0.here hx rfl (hb hby at_159) rfl  k)
    show Goes p e below _ (sF T0 m 160 #[iv p1, rv ob, iv ix, .unset] [(.int ix)])
    refine Goes.step ?_ (fun _ k => XS.bipush X0.here hx rfl (hb hby at_160) k)
    show Goes p e below _ (sF T0 m 162 #[iv p1, rv ob, iv ix, .unset] [(.int (15 : Int32)), (.int ix)])
    by_cases hc162_2 : ix = (15 : Int32)
    · refine Goes.step ?_ (fun _ k => XS.icmpYes X0.here hx rfl (pc0 := 162) (pc' := 171) rfl (hb hby at_162) rfl (teq hc162_2).1 (by decide) (by decide) k)
      show Goes p e below _ (sF T0 m 171 #[iv p1, rv ob, iv ix, .unset] [])
      refine Goes.step ?_ (fun _ k => XS.iconst X0.here hx rfl (hb hby at_171) k)
      show Goes p e below _ (sF T0 m 172 #[iv p1, rv ob, iv ix, .unset] [(.int (1 : Int32))])
      refine Goes.step ?_ (fun _ k => XS.goto X0.here hx rfl (pc0 := 172) (pc' := 176) rfl (hb hby at_172) (by decide) (by decide) k)
      show Goes p e below _ (sF T0 m 176 #[iv p1, rv ob, iv ix, .unset] [(.int (1 : Int32))])
      refine Goes.step ?_ (fun _ k => XS.istoreN X0.here hx rfl (hb hby at_176) rfl (l' := #[iv p1, rv ob, iv ix, iv (1 : Int32)]) rfl k)
      show Goes p e below _ (sF T0 m 177 #[iv p1, rv ob, iv ix, iv (1 : Int32)] [])
      exact t177 p1 ob kk vs ix a nt r w13 w14 (1 : Int32) X0 hx hZ hw hby hlk hret hml hown e0 N0 Z0 O0 V_ob S_OUTCOME S_SETTLE E_a F_a hge hel hcl (by rw [← hexp]; simp [expV, hc150_1, hc162_2])
    · refine Goes.step ?_ (fun _ k => XS.icmpNo X0.here hx rfl (hb hby at_162) rfl (feq hc162_2).1 k)
      show Goes p e below _ (sF T0 m 165 #[iv p1, rv ob, iv ix, .unset] [])
      refine Goes.step ?_ (fun _ k => XS.iloadN X0.here hx rfl (hb hby at_165) rfl  k)
      show Goes p e below _ (sF T0 m 166 #[iv p1, rv ob, iv ix, .unset] [(.int ix)])
      refine Goes.step ?_ (fun _ k => XS.bipush X0.here hx rfl (hb hby at_166) k)
      show Goes p e below _ (sF T0 m 168 #[iv p1, rv ob, iv ix, .unset] [(.int (16 : Int32)), (.int ix)])
      by_cases hc168_3 : ix = (16 : Int32)
      · refine Goes.step ?_ (fun _ k => XS.icmpNo X0.here hx rfl (hb hby at_168) rfl (teq hc168_3).2 k)
        show Goes p e below _ (sF T0 m 171 #[iv p1, rv ob, iv ix, .unset] [])
        refine Goes.step ?_ (fun _ k => XS.iconst X0.here hx rfl (hb hby at_171) k)
        show Goes p e below _ (sF T0 m 172 #[iv p1, rv ob, iv ix, .unset] [(.int (1 : Int32))])
        refine Goes.step ?_ (fun _ k => XS.goto X0.here hx rfl (pc0 := 172) (pc' := 176) rfl (hb hby at_172) (by decide) (by decide) k)
        show Goes p e below _ (sF T0 m 176 #[iv p1, rv ob, iv ix, .unset] [(.int (1 : Int32))])
        refine Goes.step ?_ (fun _ k => XS.istoreN X0.here hx rfl (hb hby at_176) rfl (l' := #[iv p1, rv ob, iv ix, iv (1 : Int32)]) rfl k)
        show Goes p e below _ (sF T0 m 177 #[iv p1, rv ob, iv ix, iv (1 : Int32)] [])
        exact t177 p1 ob kk vs ix a nt r w13 w14 (1 : Int32) X0 hx hZ hw hby hlk hret hml hown e0 N0 Z0 O0 V_ob S_OUTCOME S_SETTLE E_a F_a hge hel hcl (by rw [← hexp]; simp [expV, hc150_1, hc162_2, hc168_3])
      · refine Goes.step ?_ (fun _ k => XS.icmpYes X0.here hx rfl (pc0 := 168) (pc' := 175) rfl (hb hby at_168) rfl (feq hc168_3).2 (by decide) (by decide) k)
        show Goes p e below _ (sF T0 m 175 #[iv p1, rv ob, iv ix, .unset] [])
        refine Goes.step ?_ (fun _ k => XS.iconst X0.here hx rfl (hb hby at_175) k)
        show Goes p e below _ (sF T0 m 176 #[iv p1, rv ob, iv ix, .unset] [(.int (0 : Int32))])
        refine Goes.step ?_ (fun _ k => XS.istoreN X0.here hx rfl (hb hby at_176) rfl (l' := #[iv p1, rv ob, iv ix, iv (0 : Int32)]) rfl k)
        show Goes p e below _ (sF T0 m 177 #[iv p1, rv ob, iv ix, iv (0 : Int32)] [])
        exact t177 p1 ob kk vs ix a nt r w13 w14 (0 : Int32) X0 hx hZ hw hby hlk hret hml hown e0 N0 Z0 O0 V_ob S_OUTCOME S_SETTLE E_a F_a hge hel hcl (by rw [← hexp]; simp [expV, hc150_1, hc162_2, hc168_3])
  · refine Goes.step ?_ (fun _ k => XS.icmpNo X0.here hx rfl (hb hby at_150) rfl (flt hc150_1).1 k)
    show Goes p e below _ (sF T0 m 153 #[iv p1, rv ob, iv ix, .unset] [])
    refine Goes.step ?_ (fun _ k => XS.iloadN X0.here hx rfl (hb hby at_153) rfl  k)
    show Goes p e below _ (sF T0 m 154 #[iv p1, rv ob, iv ix, .unset] [(.int ix)])
    refine Goes.step ?_ (fun _ k => XS.bipush X0.here hx rfl (hb hby at_154) k)
    show Goes p e below _ (sF T0 m 156 #[iv p1, rv ob, iv ix, .unset] [(.int (12 : Int32)), (.int ix)])
    by_cases hc156_4 : (12 : Int32) < ix
    · refine Goes.step ?_ (fun _ k => XS.icmpNo X0.here hx rfl (hb hby at_156) rfl (tlt hc156_4).2.2.2 k)
      show Goes p e below _ (sF T0 m 159 #[iv p1, rv ob, iv ix, .unset] [])
      refine Goes.step ?_ (fun _ k => XS.iloadN X0.here hx rfl (hb hby at_159) rfl  k)
      show Goes p e below _ (sF T0 m 160 #[iv p1, rv ob, iv ix, .unset] [(.int ix)])
      refine Goes.step ?_ (fun _ k => XS.bipush X0.here hx rfl (hb hby at_160) k)
      show Goes p e below _ (sF T0 m 162 #[iv p1, rv ob, iv ix, .unset] [(.int (15 : Int32)), (.int ix)])
      by_cases hc162_5 : ix = (15 : Int32)
      · refine Goes.step ?_ (fun _ k => XS.icmpYes X0.here hx rfl (pc0 := 162) (pc' := 171) rfl (hb hby at_162) rfl (teq hc162_5).1 (by decide) (by decide) k)
        show Goes p e below _ (sF T0 m 171 #[iv p1, rv ob, iv ix, .unset] [])
        refine Goes.step ?_ (fun _ k => XS.iconst X0.here hx rfl (hb hby at_171) k)
        show Goes p e below _ (sF T0 m 172 #[iv p1, rv ob, iv ix, .unset] [(.int (1 : Int32))])
        refine Goes.step ?_ (fun _ k => XS.goto X0.here hx rfl (pc0 := 172) (pc' := 176) rfl (hb hby at_172) (by decide) (by decide) k)
        show Goes p e below _ (sF T0 m 176 #[iv p1, rv ob, iv ix, .unset] [(.int (1 : Int32))])
        refine Goes.step ?_ (fun _ k => XS.istoreN X0.here hx rfl (hb hby at_176) rfl (l' := #[iv p1, rv ob, iv ix, iv (1 : Int32)]) rfl k)
        show Goes p e below _ (sF T0 m 177 #[iv p1, rv ob, iv ix, iv (1 : Int32)] [])
        exact t177 p1 ob kk vs ix a nt r w13 w14 (1 : Int32) X0 hx hZ hw hby hlk hret hml hown e0 N0 Z0 O0 V_ob S_OUTCOME S_SETTLE E_a F_a hge hel hcl (by rw [← hexp]; simp [expV, hc150_1, hc156_4, hc162_5])
      · refine Goes.step ?_ (fun _ k => XS.icmpNo X0.here hx rfl (hb hby at_162) rfl (feq hc162_5).1 k)
        show Goes p e below _ (sF T0 m 165 #[iv p1, rv ob, iv ix, .unset] [])
        refine Goes.step ?_ (fun _ k => XS.iloadN X0.here hx rfl (hb hby at_165) rfl  k)
        show Goes p e below _ (sF T0 m 166 #[iv p1, rv ob, iv ix, .unset] [(.int ix)])
        refine Goes.step ?_ (fun _ k => XS.bipush X0.here hx rfl (hb hby at_166) k)
        show Goes p e below _ (sF T0 m 168 #[iv p1, rv ob, iv ix, .unset] [(.int (16 : Int32)), (.int ix)])
        by_cases hc168_6 : ix = (16 : Int32)
        · refine Goes.step ?_ (fun _ k => XS.icmpNo X0.here hx rfl (hb hby at_168) rfl (teq hc168_6).2 k)
          show Goes p e below _ (sF T0 m 171 #[iv p1, rv ob, iv ix, .unset] [])
          refine Goes.step ?_ (fun _ k => XS.iconst X0.here hx rfl (hb hby at_171) k)
          show Goes p e below _ (sF T0 m 172 #[iv p1, rv ob, iv ix, .unset] [(.int (1 : Int32))])
          refine Goes.step ?_ (fun _ k => XS.goto X0.here hx rfl (pc0 := 172) (pc' := 176) rfl (hb hby at_172) (by decide) (by decide) k)
          show Goes p e below _ (sF T0 m 176 #[iv p1, rv ob, iv ix, .unset] [(.int (1 : Int32))])
          refine Goes.step ?_ (fun _ k => XS.istoreN X0.here hx rfl (hb hby at_176) rfl (l' := #[iv p1, rv ob, iv ix, iv (1 : Int32)]) rfl k)
          show Goes p e below _ (sF T0 m 177 #[iv p1, rv ob, iv ix, iv (1 : Int32)] [])
          exact t177 p1 ob kk vs ix a nt r w13 w14 (1 : Int32) X0 hx hZ hw hby hlk hret hml hown e0 N0 Z0 O0 V_ob S_OUTCOME S_SETTLE E_a F_a hge hel hcl (by rw [← hexp]; simp [expV, hc150_1, hc156_4, hc162_5, hc168_6])
        · refine Goes.step ?_ (fun _ k => XS.icmpYes X0.here hx rfl (pc0 := 168) (pc' := 175) rfl (hb hby at_168) rfl (feq hc168_6).2 (by decide) (by decide) k)
          show Goes p e below _ (sF T0 m 175 #[iv p1, rv ob, iv ix, .unset] [])
          refine Goes.step ?_ (fun _ k => XS.iconst X0.here hx rfl (hb hby at_175) k)
          show Goes p e below _ (sF T0 m 176 #[iv p1, rv ob, iv ix, .unset] [(.int (0 : Int32))])
          refine Goes.step ?_ (fun _ k => XS.istoreN X0.here hx rfl (hb hby at_176) rfl (l' := #[iv p1, rv ob, iv ix, iv (0 : Int32)]) rfl k)
          show Goes p e below _ (sF T0 m 177 #[iv p1, rv ob, iv ix, iv (0 : Int32)] [])
          exact t177 p1 ob kk vs ix a nt r w13 w14 (0 : Int32) X0 hx hZ hw hby hlk hret hml hown e0 N0 Z0 O0 V_ob S_OUTCOME S_SETTLE E_a F_a hge hel hcl (by rw [← hexp]; simp [expV, hc150_1, hc156_4, hc162_5, hc168_6])
    · refine Goes.step ?_ (fun _ k => XS.icmpYes X0.here hx rfl (pc0 := 156) (pc' := 171) rfl (hb hby at_156) rfl (flt hc156_4).2.2.2 (by decide) (by decide) k)
      show Goes p e below _ (sF T0 m 171 #[iv p1, rv ob, iv ix, .unset] [])
      refine Goes.step ?_ (fun _ k => XS.iconst X0.here hx rfl (hb hby at_171) k)
      show Goes p e below _ (sF T0 m 172 #[iv p1, rv ob, iv ix, .unset] [(.int (1 : Int32))])
      refine Goes.step ?_ (fun _ k => XS.goto X0.here hx rfl (pc0 := 172) (pc' := 176) rfl (hb hby at_172) (by decide) (by decide) k)
      show Goes p e below _ (sF T0 m 176 #[iv p1, rv ob, iv ix, .unset] [(.int (1 : Int32))])
      refine Goes.step ?_ (fun _ k => XS.istoreN X0.here hx rfl (hb hby at_176) rfl (l' := #[iv p1, rv ob, iv ix, iv (1 : Int32)]) rfl k)
      show Goes p e below _ (sF T0 m 177 #[iv p1, rv ob, iv ix, iv (1 : Int32)] [])
      exact t177 p1 ob kk vs ix a nt r w13 w14 (1 : Int32) X0 hx hZ hw hby hlk hret hml hown e0 N0 Z0 O0 V_ob S_OUTCOME S_SETTLE E_a F_a hge hel hcl (by rw [← hexp]; simp [expV, hc150_1, hc156_4])
set_option maxRecDepth 65536 in
set_option maxHeartbeats 40000000 in
theorem seg0 {p : Program} {l : Launch} {e : Env} {R : Room} {s : State} {m : MethodId} {args : Array Value} {below : List Frame} {meth : Method} {c : Code} {T0 : State} {locs : List Loc} {cells slots : Nat} {Z : State} {a0 : Array Value} {h0 : Heap} {n0 : Nat} {W : Outcome → State → Prop} {p1 : Int32} {ob : Addr} {kk : ClassId} {w0 : Addr}
    (X0 : Stand p l e R s m args below meth c T0 locs cells slots) (hx : p.tables.exec = Jvm.exec) (hZ : Z.Warmed39 s.vm) (hw : ∀ d ∈ tables_1, d.before a0 Z = true) (hby : c.code = code) (hown : s.vm.findClass "org/serialis/net/RequestIsByClientPinLaw" = some m.cls) (g_ob : n0 ≤ ob) (Ov : Ovr Z kk "org/serialis/net/Protocol$Request") (e0 : T0.heap = h0) (N0 : Fr n0 locs) (Z0 : n0 ≤ h0.size) (O0 : Old Z n0 h0) (V_ob : Arv Z h0 ob kk ((.object "org/serialis/net/Protocol$Request")) (20 : Int32) [.null, .null, .null, .null, .null, .null, .null, .null, .null, .null, .null, .null, .null, .null, .null, .null, .null, .null, .null, .null] .null) (S_METHOD : Sta Z Z.heap "org/serialis/net/Protocol$Request" "METHOD" "Lorg/serialis/net/Protocol$Request;" (.ref w0)) (E_w0 : Exa Z Z.heap w0 "org/serialis/net/Protocol$Request")
    (kont : ∀ T' h' locs', Stand p l e R s m args below meth c T' locs' cells slots → T'.heap = h' → Fr n0 locs' → n0 ≤ h'.size → Old Z n0 h' → Arv Z h' ob kk ((.object "org/serialis/net/Protocol$Request")) (20 : Int32) [(.ref w0), .null, .null, .null, .null, .null, .null, .null, .null, .null, .null, .null, .null, .null, .null, .null, .null, .null, .null, .null] .null → Goes p e below W (sF T' m 11 #[iv p1, .unset, .unset, .unset] [(.ref ob)])) :
    Goes p e below W (sF T0 m 5 #[iv p1, .unset, .unset, .unset] [(.ref ob)]) := by
  show Goes p e below _ (sF T0 m 5 #[iv p1, .unset, .unset, .unset] [(.ref ob)])
  refine Goes.step ?_ (fun _ k => XS.dup X0.here hx rfl (hb hby at_5) rfl rfl k)
  show Goes p e below _ (sF T0 m 6 #[iv p1, .unset, .unset, .unset] [(.ref ob), (.ref ob)])
  refine Goes.step ?_ (fun _ k => XS.iconst X0.here hx rfl (hb hby at_6) k)
  show Goes p e below _ (sF T0 m 7 #[iv p1, .unset, .unset, .unset] [(.int (0 : Int32)), (.ref ob), (.ref ob)])
  obtain ⟨T1, X1, e1, st1⟩ := getS2 X0 hx hZ hown (host := "") (Or.inl (hw _ (List.mem_of_getElem? (i := 2) rfl))) Via.refl e0 (S_METHOD.ext O0.2) (g := (mkF m 7 #[iv p1, .unset, .unset, .unset] [(.int (0 : Int32)), (.ref ob), (.ref ob)])) rfl (hb hby at_7)
  refine Goes.step ?_ st1
  show Goes p e below _ (sF T1 m 10 #[iv p1, .unset, .unset, .unset] [(.ref w0), (.int (0 : Int32)), (.ref ob), (.ref ob)])
  obtain ⟨cl2, Ar2, q2, S2, N_2, H2, G2⟩ := id V_ob
  have hin3 : ¬ ((0 : Int32) < 0 ∨ cl2.slots.size ≤ ((0 : Int32)).toNatClampNeg) := inb_of S2 ⟨by decide, by decide⟩
  obtain ⟨T3, h3, X3, e3, W3, st3⟩ := stR X1 hx hZ e1 Ar2 (j := (0 : Int32)) hin3 rfl (Sto.ofV Ar2 q2 Ov (Ins.self (E_w0.ext O0.2))) (g := (mkF m 10 #[iv p1, .unset, .unset, .unset] [(.ref w0), (.int (0 : Int32)), (.ref ob), (.ref ob)])) rfl rfl (hb hby at_10)
  have V_3 : Arv Z h3 ob kk ((.object "org/serialis/net/Protocol$Request")) (20 : Int32) [(.ref w0), .null, .null, .null, .null, .null, .null, .null, .null, .null, .null, .null, .null, .null, .null, .null, .null, .null, .null, .null] .null := Arv.set Ar2 q2 S2 N_2 H2 G2 rfl W3 0 rfl (Nat.le_of_ble_eq_true rfl)
  have Zs3 : n0 ≤ h3.size := Nat.le_trans Z0 (Keep.of_wr W3).1
  have N3 := Fr.snoc X3 N0 g_ob
  refine Goes.step ?_ st3
  show Goes p e below _ (sF T3 m 11 #[iv p1, .unset, .unset, .unset] [(.ref ob)])
  have O_4 := (O0.wr W3 g_ob)
  exact kont _ _ _ X3 e3 N3 Zs3 O_4 V_3
set_option maxRecDepth 65536 in
set_option maxHeartbeats 40000000 in
theorem seg1 {p : Program} {l : Launch} {e : Env} {R : Room} {s : State} {m : MethodId} {args : Array Value} {below : List Frame} {meth : Method} {c : Code} {T0 : State} {locs : List Loc} {cells slots : Nat} {Z : State} {a0 : Array Value} {h0 : Heap} {n0 : Nat} {W : Outcome → State → Prop} {p1 : Int32} {ob : Addr} {kk : ClassId} {w0 : Addr} {w1 : Addr}
    (X0 : Stand p l e R s m args below meth c T0 locs cells slots) (hx : p.tables.exec = Jvm.exec) (hZ : Z.Warmed39 s.vm) (hw : ∀ d ∈ tables_1, d.before a0 Z = true) (hby : c.code = code) (hown : s.vm.findClass "org/serialis/net/RequestIsByClientPinLaw" = some m.cls) (g_ob : n0 ≤ ob) (Ov : Ovr Z kk "org/serialis/net/Protocol$Request") (e0 : T0.heap = h0) (N0 : Fr n0 locs) (Z0 : n0 ≤ h0.size) (O0 : Old Z n0 h0) (V_ob : Arv Z h0 ob kk ((.object "org/serialis/net/Protocol$Request")) (20 : Int32) [(.ref w0), .null, .null, .null, .null, .null, .null, .null, .null, .null, .null, .null, .null, .null, .null, .null, .null, .null, .null, .null] .null) (S_ITEMS : Sta Z Z.heap "org/serialis/net/Protocol$Request" "ITEMS" "Lorg/serialis/net/Protocol$Request;" (.ref w1)) (E_w1 : Exa Z Z.heap w1 "org/serialis/net/Protocol$Request")
    (kont : ∀ T' h' locs', Stand p l e R s m args below meth c T' locs' cells slots → T'.heap = h' → Fr n0 locs' → n0 ≤ h'.size → Old Z n0 h' → Arv Z h' ob kk ((.object "org/serialis/net/Protocol$Request")) (20 : Int32) [(.ref w0), (.ref w1), .null, .null, .null, .null, .null, .null, .null, .null, .null, .null, .null, .null, .null, .null, .null, .null, .null, .null] .null → Goes p e below W (sF T' m 17 #[iv p1, .unset, .unset, .unset] [(.ref ob)])) :
    Goes p e below W (sF T0 m 11 #[iv p1, .unset, .unset, .unset] [(.ref ob)]) := by
  show Goes p e below _ (sF T0 m 11 #[iv p1, .unset, .unset, .unset] [(.ref ob)])
  refine Goes.step ?_ (fun _ k => XS.dup X0.here hx rfl (hb hby at_11) rfl rfl k)
  show Goes p e below _ (sF T0 m 12 #[iv p1, .unset, .unset, .unset] [(.ref ob), (.ref ob)])
  refine Goes.step ?_ (fun _ k => XS.iconst X0.here hx rfl (hb hby at_12) k)
  show Goes p e below _ (sF T0 m 13 #[iv p1, .unset, .unset, .unset] [(.int (1 : Int32)), (.ref ob), (.ref ob)])
  obtain ⟨T1, X1, e1, st1⟩ := getS2 X0 hx hZ hown (host := "") (Or.inl (hw _ (List.mem_of_getElem? (i := 6) rfl))) Via.refl e0 (S_ITEMS.ext O0.2) (g := (mkF m 13 #[iv p1, .unset, .unset, .unset] [(.int (1 : Int32)), (.ref ob), (.ref ob)])) rfl (hb hby at_13)
  refine Goes.step ?_ st1
  show Goes p e below _ (sF T1 m 16 #[iv p1, .unset, .unset, .unset] [(.ref w1), (.int (1 : Int32)), (.ref ob), (.ref ob)])
  obtain ⟨cl2, Ar2, q2, S2, N_2, H2, G2⟩ := id V_ob
  have hin3 : ¬ ((1 : Int32) < 0 ∨ cl2.slots.size ≤ ((1 : Int32)).toNatClampNeg) := inb_of S2 ⟨by decide, by decide⟩
  obtain ⟨T3, h3, X3, e3, W3, st3⟩ := stR X1 hx hZ e1 Ar2 (j := (1 : Int32)) hin3 rfl (Sto.ofV Ar2 q2 Ov (Ins.self (E_w1.ext O0.2))) (g := (mkF m 16 #[iv p1, .unset, .unset, .unset] [(.ref w1), (.int (1 : Int32)), (.ref ob), (.ref ob)])) rfl rfl (hb hby at_16)
  have V_3 : Arv Z h3 ob kk ((.object "org/serialis/net/Protocol$Request")) (20 : Int32) [(.ref w0), (.ref w1), .null, .null, .null, .null, .null, .null, .null, .null, .null, .null, .null, .null, .null, .null, .null, .null, .null, .null] .null := Arv.set Ar2 q2 S2 N_2 H2 G2 rfl W3 1 rfl (Nat.le_of_ble_eq_true rfl)
  have Zs3 : n0 ≤ h3.size := Nat.le_trans Z0 (Keep.of_wr W3).1
  have N3 := Fr.snoc X3 N0 g_ob
  refine Goes.step ?_ st3
  show Goes p e below _ (sF T3 m 17 #[iv p1, .unset, .unset, .unset] [(.ref ob)])
  have O_4 := (O0.wr W3 g_ob)
  exact kont _ _ _ X3 e3 N3 Zs3 O_4 V_3
set_option maxRecDepth 65536 in
set_option maxHeartbeats 40000000 in
theorem seg2 {p : Program} {l : Launch} {e : Env} {R : Room} {s : State} {m : MethodId} {args : Array Value} {below : List Frame} {meth : Method} {c : Code} {T0 : State} {locs : List Loc} {cells slots : Nat} {Z : State} {a0 : Array Value} {h0 : Heap} {n0 : Nat} {W : Outcome → State → Prop} {p1 : Int32} {ob : Addr} {kk : ClassId} {w0 : Addr} {w1 : Addr} {w2 : Addr}
    (X0 : Stand p l e R s m args below meth c T0 locs cells slots) (hx : p.tables.exec = Jvm.exec) (hZ : Z.Warmed39 s.vm) (hw : ∀ d ∈ tables_1, d.before a0 Z = true) (hby : c.code = code) (hown : s.vm.findClass "org/serialis/net/RequestIsByClientPinLaw" = some m.cls) (g_ob : n0 ≤ ob) (Ov : Ovr Z kk "org/serialis/net/Protocol$Request") (e0 : T0.heap = h0) (N0 : Fr n0 locs) (Z0 : n0 ≤ h0.size) (O0 : Old Z n0 h0) (V_ob : Arv Z h0 ob kk ((.object "org/serialis/net/Protocol$Request")) (20 : Int32) [(.ref w0), (.ref w1), .null, .null, .null, .null, .null, .null, .null, .null, .null, .null, .null, .null, .null, .null, .null, .null, .null, .null] .null) (S_VALUE : Sta Z Z.heap "org/serialis/net/Protocol$Request" "VALUE" "Lorg/serialis/net/Protocol$Request;" (.ref w2)) (E_w2 : Exa Z Z.heap w2 "org/serialis/net/Protocol$Request")
    (kont : ∀ T' h' locs', Stand p l e R s m args below meth c T' locs' cells slots → T'.heap = h' → Fr n0 locs' → n0 ≤ h'.size → Old Z n0 h' → Arv Z h' ob kk ((.object "org/serialis/net/Protocol$Request")) (20 : Int32) [(.ref w0), (.ref w1), (.ref w2), .null, .null, .null, .null, .null, .null, .null, .null, .null, .null, .null, .null, .null, .null, .null, .null, .null] .null → Goes p e below W (sF T' m 23 #[iv p1, .unset, .unset, .unset] [(.ref ob)])) :
    Goes p e below W (sF T0 m 17 #[iv p1, .unset, .unset, .unset] [(.ref ob)]) := by
  show Goes p e below _ (sF T0 m 17 #[iv p1, .unset, .unset, .unset] [(.ref ob)])
  refine Goes.step ?_ (fun _ k => XS.dup X0.here hx rfl (hb hby at_17) rfl rfl k)
  show Goes p e below _ (sF T0 m 18 #[iv p1, .unset, .unset, .unset] [(.ref ob), (.ref ob)])
  refine Goes.step ?_ (fun _ k => XS.iconst X0.here hx rfl (hb hby at_18) k)
  show Goes p e below _ (sF T0 m 19 #[iv p1, .unset, .unset, .unset] [(.int (2 : Int32)), (.ref ob), (.ref ob)])
  obtain ⟨T1, X1, e1, st1⟩ := getS2 X0 hx hZ hown (host := "") (Or.inl (hw _ (List.mem_of_getElem? (i := 8) rfl))) Via.refl e0 (S_VALUE.ext O0.2) (g := (mkF m 19 #[iv p1, .unset, .unset, .unset] [(.int (2 : Int32)), (.ref ob), (.ref ob)])) rfl (hb hby at_19)
  refine Goes.step ?_ st1
  show Goes p e below _ (sF T1 m 22 #[iv p1, .unset, .unset, .unset] [(.ref w2), (.int (2 : Int32)), (.ref ob), (.ref ob)])
  obtain ⟨cl2, Ar2, q2, S2, N_2, H2, G2⟩ := id V_ob
  have hin3 : ¬ ((2 : Int32) < 0 ∨ cl2.slots.size ≤ ((2 : Int32)).toNatClampNeg) := inb_of S2 ⟨by decide, by decide⟩
  obtain ⟨T3, h3, X3, e3, W3, st3⟩ := stR X1 hx hZ e1 Ar2 (j := (2 : Int32)) hin3 rfl (Sto.ofV Ar2 q2 Ov (Ins.self (E_w2.ext O0.2))) (g := (mkF m 22 #[iv p1, .unset, .unset, .unset] [(.ref w2), (.int (2 : Int32)), (.ref ob), (.ref ob)])) rfl rfl (hb hby at_22)
  have V_3 : Arv Z h3 ob kk ((.object "org/serialis/net/Protocol$Request")) (20 : Int32) [(.ref w0), (.ref w1), (.ref w2), .null, .null, .null, .null, .null, .null, .null, .null, .null, .null, .null, .null, .null, .null, .null, .null, .null] .null := Arv.set Ar2 q2 S2 N_2 H2 G2 rfl W3 2 rfl (Nat.le_of_ble_eq_true rfl)
  have Zs3 : n0 ≤ h3.size := Nat.le_trans Z0 (Keep.of_wr W3).1
  have N3 := Fr.snoc X3 N0 g_ob
  refine Goes.step ?_ st3
  show Goes p e below _ (sF T3 m 23 #[iv p1, .unset, .unset, .unset] [(.ref ob)])
  have O_4 := (O0.wr W3 g_ob)
  exact kont _ _ _ X3 e3 N3 Zs3 O_4 V_3
set_option maxRecDepth 65536 in
set_option maxHeartbeats 40000000 in
theorem seg3 {p : Program} {l : Launch} {e : Env} {R : Room} {s : State} {m : MethodId} {args : Array Value} {below : List Frame} {meth : Method} {c : Code} {T0 : State} {locs : List Loc} {cells slots : Nat} {Z : State} {a0 : Array Value} {h0 : Heap} {n0 : Nat} {W : Outcome → State → Prop} {p1 : Int32} {ob : Addr} {kk : ClassId} {w0 : Addr} {w1 : Addr} {w2 : Addr} {w3 : Addr}
    (X0 : Stand p l e R s m args below meth c T0 locs cells slots) (hx : p.tables.exec = Jvm.exec) (hZ : Z.Warmed39 s.vm) (hw : ∀ d ∈ tables_1, d.before a0 Z = true) (hby : c.code = code) (hown : s.vm.findClass "org/serialis/net/RequestIsByClientPinLaw" = some m.cls) (g_ob : n0 ≤ ob) (Ov : Ovr Z kk "org/serialis/net/Protocol$Request") (e0 : T0.heap = h0) (N0 : Fr n0 locs) (Z0 : n0 ≤ h0.size) (O0 : Old Z n0 h0) (V_ob : Arv Z h0 ob kk ((.object "org/serialis/net/Protocol$Request")) (20 : Int32) [(.ref w0), (.ref w1), (.ref w2), .null, .null, .null, .null, .null, .null, .null, .null, .null, .null, .null, .null, .null, .null, .null, .null, .null] .null) (S_LOCKING : Sta Z Z.heap "org/serialis/net/Protocol$Request" "LOCKING" "Lorg/serialis/net/Protocol$Request;" (.ref w3)) (E_w3 : Exa Z Z.heap w3 "org/serialis/net/Protocol$Request")
    (kont : ∀ T' h' locs', Stand p l e R s m args below meth c T' locs' cells slots → T'.heap = h' → Fr n0 locs' → n0 ≤ h'.size → Old Z n0 h' → Arv Z h' ob kk ((.object "org/serialis/net/Protocol$Request")) (20 : Int32) [(.ref w0), (.ref w1), (.ref w2), (.ref w3), .null, .null, .null, .null, .null, .null, .null, .null, .null, .null, .null, .null, .null, .null, .null, .null] .null → Goes p e below W (sF T' m 29 #[iv p1, .unset, .unset, .unset] [(.ref ob)])) :
    Goes p e below W (sF T0 m 23 #[iv p1, .unset, .unset, .unset] [(.ref ob)]) := by
  show Goes p e below _ (sF T0 m 23 #[iv p1, .unset, .unset, .unset] [(.ref ob)])
  refine Goes.step ?_ (fun _ k => XS.dup X0.here hx rfl (hb hby at_23) rfl rfl k)
  show Goes p e below _ (sF T0 m 24 #[iv p1, .unset, .unset, .unset] [(.ref ob), (.ref ob)])
  refine Goes.step ?_ (fun _ k => XS.iconst X0.here hx rfl (hb hby at_24) k)
  show Goes p e below _ (sF T0 m 25 #[iv p1, .unset, .unset, .unset] [(.int (3 : Int32)), (.ref ob), (.ref ob)])
  obtain ⟨T1, X1, e1, st1⟩ := getS2 X0 hx hZ hown (host := "") (Or.inl (hw _ (List.mem_of_getElem? (i := 10) rfl))) Via.refl e0 (S_LOCKING.ext O0.2) (g := (mkF m 25 #[iv p1, .unset, .unset, .unset] [(.int (3 : Int32)), (.ref ob), (.ref ob)])) rfl (hb hby at_25)
  refine Goes.step ?_ st1
  show Goes p e below _ (sF T1 m 28 #[iv p1, .unset, .unset, .unset] [(.ref w3), (.int (3 : Int32)), (.ref ob), (.ref ob)])
  obtain ⟨cl2, Ar2, q2, S2, N_2, H2, G2⟩ := id V_ob
  have hin3 : ¬ ((3 : Int32) < 0 ∨ cl2.slots.size ≤ ((3 : Int32)).toNatClampNeg) := inb_of S2 ⟨by decide, by decide⟩
  obtain ⟨T3, h3, X3, e3, W3, st3⟩ := stR X1 hx hZ e1 Ar2 (j := (3 : Int32)) hin3 rfl (Sto.ofV Ar2 q2 Ov (Ins.self (E_w3.ext O0.2))) (g := (mkF m 28 #[iv p1, .unset, .unset, .unset] [(.ref w3), (.int (3 : Int32)), (.ref ob), (.ref ob)])) rfl rfl (hb hby at_28)
  have V_3 : Arv Z h3 ob kk ((.object "org/serialis/net/Protocol$Request")) (20 : Int32) [(.ref w0), (.ref w1), (.ref w2), (.ref w3), .null, .null, .null, .null, .null, .null, .null, .null, .null, .null, .null, .null, .null, .null, .null, .null] .null := Arv.set Ar2 q2 S2 N_2 H2 G2 rfl W3 3 rfl (Nat.le_of_ble_eq_true rfl)
  have Zs3 : n0 ≤ h3.size := Nat.le_trans Z0 (Keep.of_wr W3).1
  have N3 := Fr.snoc X3 N0 g_ob
  refine Goes.step ?_ st3
  show Goes p e below _ (sF T3 m 29 #[iv p1, .unset, .unset, .unset] [(.ref ob)])
  have O_4 := (O0.wr W3 g_ob)
  exact kont _ _ _ X3 e3 N3 Zs3 O_4 V_3
set_option maxRecDepth 65536 in
set_option maxHeartbeats 40000000 in
theorem seg4 {p : Program} {l : Launch} {e : Env} {R : Room} {s : State} {m : MethodId} {args : Array Value} {below : List Frame} {meth : Method} {c : Code} {T0 : State} {locs : List Loc} {cells slots : Nat} {Z : State} {a0 : Array Value} {h0 : Heap} {n0 : Nat} {W : Outcome → State → Prop} {p1 : Int32} {ob : Addr} {kk : ClassId} {w0 : Addr} {w1 : Addr} {w2 : Addr} {w3 : Addr} {w4 : Addr}
    (X0 : Stand p l e R s m args below meth c T0 locs cells slots) (hx : p.tables.exec = Jvm.exec) (hZ : Z.Warmed39 s.vm) (hw : ∀ d ∈ tables_1, d.before a0 Z = true) (hby : c.code = code) (hown : s.vm.findClass "org/serialis/net/RequestIsByClientPinLaw" = some m.cls) (g_ob : n0 ≤ ob) (Ov : Ovr Z kk "org/serialis/net/Protocol$Request") (e0 : T0.heap = h0) (N0 : Fr n0 locs) (Z0 : n0 ≤ h0.size) (O0 : Old Z n0 h0) (V_ob : Arv Z h0 ob kk ((.object "org/serialis/net/Protocol$Request")) (20 : Int32) [(.ref w0), (.ref w1), (.ref w2), (.ref w3), .null, .null, .null, .null, .null, .null, .null, .null, .null, .null, .null, .null, .null, .null, .null, .null] .null) (S_READ : Sta Z Z.heap "org/serialis/net/Protocol$Request" "READ" "Lorg/serialis/net/Protocol$Request;" (.ref w4)) (E_w4 : Exa Z Z.heap w4 "org/serialis/net/Protocol$Request")
    (kont : ∀ T' h' locs', Stand p l e R s m args below meth c T' locs' cells slots → T'.heap = h' → Fr n0 locs' → n0 ≤ h'.size → Old Z n0 h' → Arv Z h' ob kk ((.object "org/serialis/net/Protocol$Request")) (20 : Int32) [(.ref w0), (.ref w1), (.ref w2), (.ref w3), (.ref w4), .null, .null, .null, .null, .null, .null, .null, .null, .null, .null, .null, .null, .null, .null, .null] .null → Goes p e below W (sF T' m 35 #[iv p1, .unset, .unset, .unset] [(.ref ob)])) :
    Goes p e below W (sF T0 m 29 #[iv p1, .unset, .unset, .unset] [(.ref ob)]) := by
  show Goes p e below _ (sF T0 m 29 #[iv p1, .unset, .unset, .unset] [(.ref ob)])
  refine Goes.step ?_ (fun _ k => XS.dup X0.here hx rfl (hb hby at_29) rfl rfl k)
  show Goes p e below _ (sF T0 m 30 #[iv p1, .unset, .unset, .unset] [(.ref ob), (.ref ob)])
  refine Goes.step ?_ (fun _ k => XS.iconst X0.here hx rfl (hb hby at_30) k)
  show Goes p e below _ (sF T0 m 31 #[iv p1, .unset, .unset, .unset] [(.int (4 : Int32)), (.ref ob), (.ref ob)])
  obtain ⟨T1, X1, e1, st1⟩ := getS2 X0 hx hZ hown (host := "") (Or.inl (hw _ (List.mem_of_getElem? (i := 12) rfl))) Via.refl e0 (S_READ.ext O0.2) (g := (mkF m 31 #[iv p1, .unset, .unset, .unset] [(.int (4 : Int32)), (.ref ob), (.ref ob)])) rfl (hb hby at_31)
  refine Goes.step ?_ st1
  show Goes p e below _ (sF T1 m 34 #[iv p1, .unset, .unset, .unset] [(.ref w4), (.int (4 : Int32)), (.ref ob), (.ref ob)])
  obtain ⟨cl2, Ar2, q2, S2, N_2, H2, G2⟩ := id V_ob
  have hin3 : ¬ ((4 : Int32) < 0 ∨ cl2.slots.size ≤ ((4 : Int32)).toNatClampNeg) := inb_of S2 ⟨by decide, by decide⟩
  obtain ⟨T3, h3, X3, e3, W3, st3⟩ := stR X1 hx hZ e1 Ar2 (j := (4 : Int32)) hin3 rfl (Sto.ofV Ar2 q2 Ov (Ins.self (E_w4.ext O0.2))) (g := (mkF m 34 #[iv p1, .unset, .unset, .unset] [(.ref w4), (.int (4 : Int32)), (.ref ob), (.ref ob)])) rfl rfl (hb hby at_34)
  have V_3 : Arv Z h3 ob kk ((.object "org/serialis/net/Protocol$Request")) (20 : Int32) [(.ref w0), (.ref w1), (.ref w2), (.ref w3), (.ref w4), .null, .null, .null, .null, .null, .null, .null, .null, .null, .null, .null, .null, .null, .null, .null] .null := Arv.set Ar2 q2 S2 N_2 H2 G2 rfl W3 4 rfl (Nat.le_of_ble_eq_true rfl)
  have Zs3 : n0 ≤ h3.size := Nat.le_trans Z0 (Keep.of_wr W3).1
  have N3 := Fr.snoc X3 N0 g_ob
  refine Goes.step ?_ st3
  show Goes p e below _ (sF T3 m 35 #[iv p1, .unset, .unset, .unset] [(.ref ob)])
  have O_4 := (O0.wr W3 g_ob)
  exact kont _ _ _ X3 e3 N3 Zs3 O_4 V_3
set_option maxRecDepth 65536 in
set_option maxHeartbeats 40000000 in
theorem seg5 {p : Program} {l : Launch} {e : Env} {R : Room} {s : State} {m : MethodId} {args : Array Value} {below : List Frame} {meth : Method} {c : Code} {T0 : State} {locs : List Loc} {cells slots : Nat} {Z : State} {a0 : Array Value} {h0 : Heap} {n0 : Nat} {W : Outcome → State → Prop} {p1 : Int32} {ob : Addr} {kk : ClassId} {w0 : Addr} {w1 : Addr} {w2 : Addr} {w3 : Addr} {w4 : Addr} {w5 : Addr}
    (X0 : Stand p l e R s m args below meth c T0 locs cells slots) (hx : p.tables.exec = Jvm.exec) (hZ : Z.Warmed39 s.vm) (hw : ∀ d ∈ tables_1, d.before a0 Z = true) (hby : c.code = code) (hown : s.vm.findClass "org/serialis/net/RequestIsByClientPinLaw" = some m.cls) (g_ob : n0 ≤ ob) (Ov : Ovr Z kk "org/serialis/net/Protocol$Request") (e0 : T0.heap = h0) (N0 : Fr n0 locs) (Z0 : n0 ≤ h0.size) (O0 : Old Z n0 h0) (V_ob : Arv Z h0 ob kk ((.object "org/serialis/net/Protocol$Request")) (20 : Int32) [(.ref w0), (.ref w1), (.ref w2), (.ref w3), (.ref w4), .null, .null, .null, .null, .null, .null, .null, .null, .null, .null, .null, .null, .null, .null, .null] .null) (S_RANGE : Sta Z Z.heap "org/serialis/net/Protocol$Request" "RANGE" "Lorg/serialis/net/Protocol$Request;" (.ref w5)) (E_w5 : Exa Z Z.heap w5 "org/serialis/net/Protocol$Request")
    (kont : ∀ T' h' locs', Stand p l e R s m args below meth c T' locs' cells slots → T'.heap = h' → Fr n0 locs' → n0 ≤ h'.size → Old Z n0 h' → Arv Z h' ob kk ((.object "org/serialis/net/Protocol$Request")) (20 : Int32) [(.ref w0), (.ref w1), (.ref w2), (.ref w3), (.ref w4), (.ref w5), .null, .null, .null, .null, .null, .null, .null, .null, .null, .null, .null, .null, .null, .null] .null → Goes p e below W (sF T' m 41 #[iv p1, .unset, .unset, .unset] [(.ref ob)])) :
    Goes p e below W (sF T0 m 35 #[iv p1, .unset, .unset, .unset] [(.ref ob)]) := by
  show Goes p e below _ (sF T0 m 35 #[iv p1, .unset, .unset, .unset] [(.ref ob)])
  refine Goes.step ?_ (fun _ k => XS.dup X0.here hx rfl (hb hby at_35) rfl rfl k)
  show Goes p e below _ (sF T0 m 36 #[iv p1, .unset, .unset, .unset] [(.ref ob), (.ref ob)])
  refine Goes.step ?_ (fun _ k => XS.iconst X0.here hx rfl (hb hby at_36) k)
  show Goes p e below _ (sF T0 m 37 #[iv p1, .unset, .unset, .unset] [(.int (5 : Int32)), (.ref ob), (.ref ob)])
  obtain ⟨T1, X1, e1, st1⟩ := getS2 X0 hx hZ hown (host := "") (Or.inl (hw _ (List.mem_of_getElem? (i := 14) rfl))) Via.refl e0 (S_RANGE.ext O0.2) (g := (mkF m 37 #[iv p1, .unset, .unset, .unset] [(.int (5 : Int32)), (.ref ob), (.ref ob)])) rfl (hb hby at_37)
  refine Goes.step ?_ st1
  show Goes p e below _ (sF T1 m 40 #[iv p1, .unset, .unset, .unset] [(.ref w5), (.int (5 : Int32)), (.ref ob), (.ref ob)])
  obtain ⟨cl2, Ar2, q2, S2, N_2, H2, G2⟩ := id V_ob
  have hin3 : ¬ ((5 : Int32) < 0 ∨ cl2.slots.size ≤ ((5 : Int32)).toNatClampNeg) := inb_of S2 ⟨by decide, by decide⟩
  obtain ⟨T3, h3, X3, e3, W3, st3⟩ := stR X1 hx hZ e1 Ar2 (j := (5 : Int32)) hin3 rfl (Sto.ofV Ar2 q2 Ov (Ins.self (E_w5.ext O0.2))) (g := (mkF m 40 #[iv p1, .unset, .unset, .unset] [(.ref w5), (.int (5 : Int32)), (.ref ob), (.ref ob)])) rfl rfl (hb hby at_40)
  have V_3 : Arv Z h3 ob kk ((.object "org/serialis/net/Protocol$Request")) (20 : Int32) [(.ref w0), (.ref w1), (.ref w2), (.ref w3), (.ref w4), (.ref w5), .null, .null, .null, .null, .null, .null, .null, .null, .null, .null, .null, .null, .null, .null] .null := Arv.set Ar2 q2 S2 N_2 H2 G2 rfl W3 5 rfl (Nat.le_of_ble_eq_true rfl)
  have Zs3 : n0 ≤ h3.size := Nat.le_trans Z0 (Keep.of_wr W3).1
  have N3 := Fr.snoc X3 N0 g_ob
  refine Goes.step ?_ st3
  show Goes p e below _ (sF T3 m 41 #[iv p1, .unset, .unset, .unset] [(.ref ob)])
  have O_4 := (O0.wr W3 g_ob)
  exact kont _ _ _ X3 e3 N3 Zs3 O_4 V_3
set_option maxRecDepth 65536 in
set_option maxHeartbeats 40000000 in
theorem seg6 {p : Program} {l : Launch} {e : Env} {R : Room} {s : State} {m : MethodId} {args : Array Value} {below : List Frame} {meth : Method} {c : Code} {T0 : State} {locs : List Loc} {cells slots : Nat} {Z : State} {a0 : Array Value} {h0 : Heap} {n0 : Nat} {W : Outcome → State → Prop} {p1 : Int32} {ob : Addr} {kk : ClassId} {w0 : Addr} {w1 : Addr} {w2 : Addr} {w3 : Addr} {w4 : Addr} {w5 : Addr} {w6 : Addr}
    (X0 : Stand p l e R s m args below meth c T0 locs cells slots) (hx : p.tables.exec = Jvm.exec) (hZ : Z.Warmed39 s.vm) (hw : ∀ d ∈ tables_1, d.before a0 Z = true) (hby : c.code = code) (hown : s.vm.findClass "org/serialis/net/RequestIsByClientPinLaw" = some m.cls) (g_ob : n0 ≤ ob) (Ov : Ovr Z kk "org/serialis/net/Protocol$Request") (e0 : T0.heap = h0) (N0 : Fr n0 locs) (Z0 : n0 ≤ h0.size) (O0 : Old Z n0 h0) (V_ob : Arv Z h0 ob kk ((.object "org/serialis/net/Protocol$Request")) (20 : Int32) [(.ref w0), (.ref w1), (.ref w2), (.ref w3), (.ref w4), (.ref w5), .null, .null, .null, .null, .null, .null, .null, .null, .null, .null, .null, .null, .null, .null] .null) (S_WRITE : Sta Z Z.heap "org/serialis/net/Protocol$Request" "WRITE" "Lorg/serialis/net/Protocol$Request;" (.ref w6)) (E_w6 : Exa Z Z.heap w6 "org/serialis/net/Protocol$Request")
    (kont : ∀ T' h' locs', Stand p l e R s m args below meth c T' locs' cells slots → T'.heap = h' → Fr n0 locs' → n0 ≤ h'.size → Old Z n0 h' → Arv Z h' ob kk ((.object "org/serialis/net/Protocol$Request")) (20 : Int32) [(.ref w0), (.ref w1), (.ref w2), (.ref w3), (.ref w4), (.ref w5), (.ref w6), .null, .null, .null, .null, .null, .null, .null, .null, .null, .null, .null, .null, .null] .null → Goes p e below W (sF T' m 48 #[iv p1, .unset, .unset, .unset] [(.ref ob)])) :
    Goes p e below W (sF T0 m 41 #[iv p1, .unset, .unset, .unset] [(.ref ob)]) := by
  show Goes p e below _ (sF T0 m 41 #[iv p1, .unset, .unset, .unset] [(.ref ob)])
  refine Goes.step ?_ (fun _ k => XS.dup X0.here hx rfl (hb hby at_41) rfl rfl k)
  show Goes p e below _ (sF T0 m 42 #[iv p1, .unset, .unset, .unset] [(.ref ob), (.ref ob)])
  refine Goes.step ?_ (fun _ k => XS.bipush X0.here hx rfl (hb hby at_42) k)
  show Goes p e below _ (sF T0 m 44 #[iv p1, .unset, .unset, .unset] [(.int (6 : Int32)), (.ref ob), (.ref ob)])
  obtain ⟨T1, X1, e1, st1⟩ := getS2 X0 hx hZ hown (host := "") (Or.inl (hw _ (List.mem_of_getElem? (i := 16) rfl))) Via.refl e0 (S_WRITE.ext O0.2) (g := (mkF m 44 #[iv p1, .unset, .unset, .unset] [(.int (6 : Int32)), (.ref ob), (.ref ob)])) rfl (hb hby at_44)
  refine Goes.step ?_ st1
  show Goes p e below _ (sF T1 m 47 #[iv p1, .unset, .unset, .unset] [(.ref w6), (.int (6 : Int32)), (.ref ob), (.ref ob)])
  obtain ⟨cl2, Ar2, q2, S2, N_2, H2, G2⟩ := id V_ob
  have hin3 : ¬ ((6 : Int32) < 0 ∨ cl2.slots.size ≤ ((6 : Int32)).toNatClampNeg) := inb_of S2 ⟨by decide, by decide⟩
  obtain ⟨T3, h3, X3, e3, W3, st3⟩ := stR X1 hx hZ e1 Ar2 (j := (6 : Int32)) hin3 rfl (Sto.ofV Ar2 q2 Ov (Ins.self (E_w6.ext O0.2))) (g := (mkF m 47 #[iv p1, .unset, .unset, .unset] [(.ref w6), (.int (6 : Int32)), (.ref ob), (.ref ob)])) rfl rfl (hb hby at_47)
  have V_3 : Arv Z h3 ob kk ((.object "org/serialis/net/Protocol$Request")) (20 : Int32) [(.ref w0), (.ref w1), (.ref w2), (.ref w3), (.ref w4), (.ref w5), (.ref w6), .null, .null, .null, .null, .null, .null, .null, .null, .null, .null, .null, .null, .null] .null := Arv.set Ar2 q2 S2 N_2 H2 G2 rfl W3 6 rfl (Nat.le_of_ble_eq_true rfl)
  have Zs3 : n0 ≤ h3.size := Nat.le_trans Z0 (Keep.of_wr W3).1
  have N3 := Fr.snoc X3 N0 g_ob
  refine Goes.step ?_ st3
  show Goes p e below _ (sF T3 m 48 #[iv p1, .unset, .unset, .unset] [(.ref ob)])
  have O_4 := (O0.wr W3 g_ob)
  exact kont _ _ _ X3 e3 N3 Zs3 O_4 V_3
set_option maxRecDepth 65536 in
set_option maxHeartbeats 40000000 in
theorem seg7 {p : Program} {l : Launch} {e : Env} {R : Room} {s : State} {m : MethodId} {args : Array Value} {below : List Frame} {meth : Method} {c : Code} {T0 : State} {locs : List Loc} {cells slots : Nat} {Z : State} {a0 : Array Value} {h0 : Heap} {n0 : Nat} {W : Outcome → State → Prop} {p1 : Int32} {ob : Addr} {kk : ClassId} {w0 : Addr} {w1 : Addr} {w2 : Addr} {w3 : Addr} {w4 : Addr} {w5 : Addr} {w6 : Addr} {w7 : Addr}
    (X0 : Stand p l e R s m args below meth c T0 locs cells slots) (hx : p.tables.exec = Jvm.exec) (hZ : Z.Warmed39 s.vm) (hw : ∀ d ∈ tables_1, d.before a0 Z = true) (hby : c.code = code) (hown : s.vm.findClass "org/serialis/net/RequestIsByClientPinLaw" = some m.cls) (g_ob : n0 ≤ ob) (Ov : Ovr Z kk "org/serialis/net/Protocol$Request") (e0 : T0.heap = h0) (N0 : Fr n0 locs) (Z0 : n0 ≤ h0.size) (O0 : Old Z n0 h0) (V_ob : Arv Z h0 ob kk ((.object "org/serialis/net/Protocol$Request")) (20 : Int32) [(.ref w0), (.ref w1), (.ref w2), (.ref w3), (.ref w4), (.ref w5), (.ref w6), .null, .null, .null, .null, .null, .null, .null, .null, .null, .null, .null, .null, .null] .null) (S_CONTROL : Sta Z Z.heap "org/serialis/net/Protocol$Request" "CONTROL" "Lorg/serialis/net/Protocol$Request;" (.ref w7)) (E_w7 : Exa Z Z.heap w7 "org/serialis/net/Protocol$Request")
    (kont : ∀ T' h' locs', Stand p l e R s m args below meth c T' locs' cells slots → T'.heap = h' → Fr n0 locs' → n0 ≤ h'.size → Old Z n0 h' → Arv Z h' ob kk ((.object "org/serialis/net/Protocol$Request")) (20 : Int32) [(.ref w0), (.ref w1), (.ref w2), (.ref w3), (.ref w4), (.ref w5), (.ref w6), (.ref w7), .null, .null, .null, .null, .null, .null, .null, .null, .null, .null, .null, .null] .null → Goes p e below W (sF T' m 55 #[iv p1, .unset, .unset, .unset] [(.ref ob)])) :
    Goes p e below W (sF T0 m 48 #[iv p1, .unset, .unset, .unset] [(.ref ob)]) := by
  show Goes p e below _ (sF T0 m 48 #[iv p1, .unset, .unset, .unset] [(.ref ob)])
  refine Goes.step ?_ (fun _ k => XS.dup X0.here hx rfl (hb hby at_48) rfl rfl k)
  show Goes p e below _ (sF T0 m 49 #[iv p1, .unset, .unset, .unset] [(.ref ob), (.ref ob)])
  refine Goes.step ?_ (fun _ k => XS.bipush X0.here hx rfl (hb hby at_49) k)
  show Goes p e below _ (sF T0 m 51 #[iv p1, .unset, .unset, .unset] [(.int (7 : Int32)), (.ref ob), (.ref ob)])
  obtain ⟨T1, X1, e1, st1⟩ := getS2 X0 hx hZ hown (host := "") (Or.inl (hw _ (List.mem_of_getElem? (i := 18) rfl))) Via.refl e0 (S_CONTROL.ext O0.2) (g := (mkF m 51 #[iv p1, .unset, .unset, .unset] [(.int (7 : Int32)), (.ref ob), (.ref ob)])) rfl (hb hby at_51)
  refine Goes.step ?_ st1
  show Goes p e below _ (sF T1 m 54 #[iv p1, .unset, .unset, .unset] [(.ref w7), (.int (7 : Int32)), (.ref ob), (.ref ob)])
  obtain ⟨cl2, Ar2, q2, S2, N_2, H2, G2⟩ := id V_ob
  have hin3 : ¬ ((7 : Int32) < 0 ∨ cl2.slots.size ≤ ((7 : Int32)).toNatClampNeg) := inb_of S2 ⟨by decide, by decide⟩
  obtain ⟨T3, h3, X3, e3, W3, st3⟩ := stR X1 hx hZ e1 Ar2 (j := (7 : Int32)) hin3 rfl (Sto.ofV Ar2 q2 Ov (Ins.self (E_w7.ext O0.2))) (g := (mkF m 54 #[iv p1, .unset, .unset, .unset] [(.ref w7), (.int (7 : Int32)), (.ref ob), (.ref ob)])) rfl rfl (hb hby at_54)
  have V_3 : Arv Z h3 ob kk ((.object "org/serialis/net/Protocol$Request")) (20 : Int32) [(.ref w0), (.ref w1), (.ref w2), (.ref w3), (.ref w4), (.ref w5), (.ref w6), (.ref w7), .null, .null, .null, .null, .null, .null, .null, .null, .null, .null, .null, .null] .null := Arv.set Ar2 q2 S2 N_2 H2 G2 rfl W3 7 rfl (Nat.le_of_ble_eq_true rfl)
  have Zs3 : n0 ≤ h3.size := Nat.le_trans Z0 (Keep.of_wr W3).1
  have N3 := Fr.snoc X3 N0 g_ob
  refine Goes.step ?_ st3
  show Goes p e below _ (sF T3 m 55 #[iv p1, .unset, .unset, .unset] [(.ref ob)])
  have O_4 := (O0.wr W3 g_ob)
  exact kont _ _ _ X3 e3 N3 Zs3 O_4 V_3
set_option maxRecDepth 65536 in
set_option maxHeartbeats 40000000 in
theorem seg8 {p : Program} {l : Launch} {e : Env} {R : Room} {s : State} {m : MethodId} {args : Array Value} {below : List Frame} {meth : Method} {c : Code} {T0 : State} {locs : List Loc} {cells slots : Nat} {Z : State} {a0 : Array Value} {h0 : Heap} {n0 : Nat} {W : Outcome → State → Prop} {p1 : Int32} {ob : Addr} {kk : ClassId} {w0 : Addr} {w1 : Addr} {w2 : Addr} {w3 : Addr} {w4 : Addr} {w5 : Addr} {w6 : Addr} {w7 : Addr} {w8 : Addr}
    (X0 : Stand p l e R s m args below meth c T0 locs cells slots) (hx : p.tables.exec = Jvm.exec) (hZ : Z.Warmed39 s.vm) (hw : ∀ d ∈ tables_1, d.before a0 Z = true) (hby : c.code = code) (hown : s.vm.findClass "org/serialis/net/RequestIsByClientPinLaw" = some m.cls) (g_ob : n0 ≤ ob) (Ov : Ovr Z kk "org/serialis/net/Protocol$Request") (e0 : T0.heap = h0) (N0 : Fr n0 locs) (Z0 : n0 ≤ h0.size) (O0 : Old Z n0 h0) (V_ob : Arv Z h0 ob kk ((.object "org/serialis/net/Protocol$Request")) (20 : Int32) [(.ref w0), (.ref w1), (.ref w2), (.ref w3), (.ref w4), (.ref w5), (.ref w6), (.ref w7), .null, .null, .null, .null, .null, .null, .null, .null, .null, .null, .null, .null] .null) (S_CONTROL_COMMIT : Sta Z Z.heap "org/serialis/net/Protocol$Request" "CONTROL_COMMIT" "Lorg/serialis/net/Protocol$Request;" (.ref w8)) (E_w8 : Exa Z Z.heap w8 "org/serialis/net/Protocol$Request")
    (kont : ∀ T' h' locs', Stand p l e R s m args below meth c T' locs' cells slots → T'.heap = h' → Fr n0 locs' → n0 ≤ h'.size → Old Z n0 h' → Arv Z h' ob kk ((.object "org/serialis/net/Protocol$Request")) (20 : Int32) [(.ref w0), (.ref w1), (.ref w2), (.ref w3), (.ref w4), (.ref w5), (.ref w6), (.ref w7), (.ref w8), .null, .null, .null, .null, .null, .null, .null, .null, .null, .null, .null] .null → Goes p e below W (sF T' m 62 #[iv p1, .unset, .unset, .unset] [(.ref ob)])) :
    Goes p e below W (sF T0 m 55 #[iv p1, .unset, .unset, .unset] [(.ref ob)]) := by
  show Goes p e below _ (sF T0 m 55 #[iv p1, .unset, .unset, .unset] [(.ref ob)])
  refine Goes.step ?_ (fun _ k => XS.dup X0.here hx rfl (hb hby at_55) rfl rfl k)
  show Goes p e below _ (sF T0 m 56 #[iv p1, .unset, .unset, .unset] [(.ref ob), (.ref ob)])
  refine Goes.step ?_ (fun _ k => XS.bipush X0.here hx rfl (hb hby at_56) k)
  show Goes p e below _ (sF T0 m 58 #[iv p1, .unset, .unset, .unset] [(.int (8 : Int32)), (.ref ob), (.ref ob)])
  obtain ⟨T1, X1, e1, st1⟩ := getS2 X0 hx hZ hown (host := "") (Or.inl (hw _ (List.mem_of_getElem? (i := 20) rfl))) Via.refl e0 (S_CONTROL_COMMIT.ext O0.2) (g := (mkF m 58 #[iv p1, .unset, .unset, .unset] [(.int (8 : Int32)), (.ref ob), (.ref ob)])) rfl (hb hby at_58)
  refine Goes.step ?_ st1
  show Goes p e below _ (sF T1 m 61 #[iv p1, .unset, .unset, .unset] [(.ref w8), (.int (8 : Int32)), (.ref ob), (.ref ob)])
  obtain ⟨cl2, Ar2, q2, S2, N_2, H2, G2⟩ := id V_ob
  have hin3 : ¬ ((8 : Int32) < 0 ∨ cl2.slots.size ≤ ((8 : Int32)).toNatClampNeg) := inb_of S2 ⟨by decide, by decide⟩
  obtain ⟨T3, h3, X3, e3, W3, st3⟩ := stR X1 hx hZ e1 Ar2 (j := (8 : Int32)) hin3 rfl (Sto.ofV Ar2 q2 Ov (Ins.self (E_w8.ext O0.2))) (g := (mkF m 61 #[iv p1, .unset, .unset, .unset] [(.ref w8), (.int (8 : Int32)), (.ref ob), (.ref ob)])) rfl rfl (hb hby at_61)
  have V_3 : Arv Z h3 ob kk ((.object "org/serialis/net/Protocol$Request")) (20 : Int32) [(.ref w0), (.ref w1), (.ref w2), (.ref w3), (.ref w4), (.ref w5), (.ref w6), (.ref w7), (.ref w8), .null, .null, .null, .null, .null, .null, .null, .null, .null, .null, .null] .null := Arv.set Ar2 q2 S2 N_2 H2 G2 rfl W3 8 rfl (Nat.le_of_ble_eq_true rfl)
  have Zs3 : n0 ≤ h3.size := Nat.le_trans Z0 (Keep.of_wr W3).1
  have N3 := Fr.snoc X3 N0 g_ob
  refine Goes.step ?_ st3
  show Goes p e below _ (sF T3 m 62 #[iv p1, .unset, .unset, .unset] [(.ref ob)])
  have O_4 := (O0.wr W3 g_ob)
  exact kont _ _ _ X3 e3 N3 Zs3 O_4 V_3
set_option maxRecDepth 65536 in
set_option maxHeartbeats 40000000 in
theorem seg9 {p : Program} {l : Launch} {e : Env} {R : Room} {s : State} {m : MethodId} {args : Array Value} {below : List Frame} {meth : Method} {c : Code} {T0 : State} {locs : List Loc} {cells slots : Nat} {Z : State} {a0 : Array Value} {h0 : Heap} {n0 : Nat} {W : Outcome → State → Prop} {p1 : Int32} {ob : Addr} {kk : ClassId} {w0 : Addr} {w1 : Addr} {w2 : Addr} {w3 : Addr} {w4 : Addr} {w5 : Addr} {w6 : Addr} {w7 : Addr} {w8 : Addr} {w9 : Addr}
    (X0 : Stand p l e R s m args below meth c T0 locs cells slots) (hx : p.tables.exec = Jvm.exec) (hZ : Z.Warmed39 s.vm) (hw : ∀ d ∈ tables_1, d.before a0 Z = true) (hby : c.code = code) (hown : s.vm.findClass "org/serialis/net/RequestIsByClientPinLaw" = some m.cls) (g_ob : n0 ≤ ob) (Ov : Ovr Z kk "org/serialis/net/Protocol$Request") (e0 : T0.heap = h0) (N0 : Fr n0 locs) (Z0 : n0 ≤ h0.size) (O0 : Old Z n0 h0) (V_ob : Arv Z h0 ob kk ((.object "org/serialis/net/Protocol$Request")) (20 : Int32) [(.ref w0), (.ref w1), (.ref w2), (.ref w3), (.ref w4), (.ref w5), (.ref w6), (.ref w7), (.ref w8), .null, .null, .null, .null, .null, .null, .null, .null, .null, .null, .null] .null) (S_ASK_PRIORITY : Sta Z Z.heap "org/serialis/net/Protocol$Request" "ASK_PRIORITY" "Lorg/serialis/net/Protocol$Request;" (.ref w9)) (E_w9 : Exa Z Z.heap w9 "org/serialis/net/Protocol$Request")
    (kont : ∀ T' h' locs', Stand p l e R s m args below meth c T' locs' cells slots → T'.heap = h' → Fr n0 locs' → n0 ≤ h'.size → Old Z n0 h' → Arv Z h' ob kk ((.object "org/serialis/net/Protocol$Request")) (20 : Int32) [(.ref w0), (.ref w1), (.ref w2), (.ref w3), (.ref w4), (.ref w5), (.ref w6), (.ref w7), (.ref w8), (.ref w9), .null, .null, .null, .null, .null, .null, .null, .null, .null, .null] .null → Goes p e below W (sF T' m 69 #[iv p1, .unset, .unset, .unset] [(.ref ob)])) :
    Goes p e below W (sF T0 m 62 #[iv p1, .unset, .unset, .unset] [(.ref ob)]) := by
  show Goes p e below _ (sF T0 m 62 #[iv p1, .unset, .unset, .unset] [(.ref ob)])
  refine Goes.step ?_ (fun _ k => XS.dup X0.here hx rfl (hb hby at_62) rfl rfl k)
  show Goes p e below _ (sF T0 m 63 #[iv p1, .unset, .unset, .unset] [(.ref ob), (.ref ob)])
  refine Goes.step ?_ (fun _ k => XS.bipush X0.here hx rfl (hb hby at_63) k)
  show Goes p e below _ (sF T0 m 65 #[iv p1, .unset, .unset, .unset] [(.int (9 : Int32)), (.ref ob), (.ref ob)])
  obtain ⟨T1, X1, e1, st1⟩ := getS2 X0 hx hZ hown (host := "") (Or.inl (hw _ (List.mem_of_getElem? (i := 22) rfl))) Via.refl e0 (S_ASK_PRIORITY.ext O0.2) (g := (mkF m 65 #[iv p1, .unset, .unset, .unset] [(.int (9 : Int32)), (.ref ob), (.ref ob)])) rfl (hb hby at_65)
  refine Goes.step ?_ st1
  show Goes p e below _ (sF T1 m 68 #[iv p1, .unset, .unset, .unset] [(.ref w9), (.int (9 : Int32)), (.ref ob), (.ref ob)])
  obtain ⟨cl2, Ar2, q2, S2, N_2, H2, G2⟩ := id V_ob
  have hin3 : ¬ ((9 : Int32) < 0 ∨ cl2.slots.size ≤ ((9 : Int32)).toNatClampNeg) := inb_of S2 ⟨by decide, by decide⟩
  obtain ⟨T3, h3, X3, e3, W3, st3⟩ := stR X1 hx hZ e1 Ar2 (j := (9 : Int32)) hin3 rfl (Sto.ofV Ar2 q2 Ov (Ins.self (E_w9.ext O0.2))) (g := (mkF m 68 #[iv p1, .unset, .unset, .unset] [(.ref w9), (.int (9 : Int32)), (.ref ob), (.ref ob)])) rfl rfl (hb hby at_68)
  have V_3 : Arv Z h3 ob kk ((.object "org/serialis/net/Protocol$Request")) (20 : Int32) [(.ref w0), (.ref w1), (.ref w2), (.ref w3), (.ref w4), (.ref w5), (.ref w6), (.ref w7), (.ref w8), (.ref w9), .null, .null, .null, .null, .null, .null, .null, .null, .null, .null] .null := Arv.set Ar2 q2 S2 N_2 H2 G2 rfl W3 9 rfl (Nat.le_of_ble_eq_true rfl)
  have Zs3 : n0 ≤ h3.size := Nat.le_trans Z0 (Keep.of_wr W3).1
  have N3 := Fr.snoc X3 N0 g_ob
  refine Goes.step ?_ st3
  show Goes p e below _ (sF T3 m 69 #[iv p1, .unset, .unset, .unset] [(.ref ob)])
  have O_4 := (O0.wr W3 g_ob)
  exact kont _ _ _ X3 e3 N3 Zs3 O_4 V_3
set_option maxRecDepth 65536 in
set_option maxHeartbeats 40000000 in
theorem seg10 {p : Program} {l : Launch} {e : Env} {R : Room} {s : State} {m : MethodId} {args : Array Value} {below : List Frame} {meth : Method} {c : Code} {T0 : State} {locs : List Loc} {cells slots : Nat} {Z : State} {a0 : Array Value} {h0 : Heap} {n0 : Nat} {W : Outcome → State → Prop} {p1 : Int32} {ob : Addr} {kk : ClassId} {w0 : Addr} {w1 : Addr} {w2 : Addr} {w3 : Addr} {w4 : Addr} {w5 : Addr} {w6 : Addr} {w7 : Addr} {w8 : Addr} {w9 : Addr} {w10 : Addr}
    (X0 : Stand p l e R s m args below meth c T0 locs cells slots) (hx : p.tables.exec = Jvm.exec) (hZ : Z.Warmed39 s.vm) (hw : ∀ d ∈ tables_1, d.before a0 Z = true) (hby : c.code = code) (hown : s.vm.findClass "org/serialis/net/RequestIsByClientPinLaw" = some m.cls) (g_ob : n0 ≤ ob) (Ov : Ovr Z kk "org/serialis/net/Protocol$Request") (e0 : T0.heap = h0) (N0 : Fr n0 locs) (Z0 : n0 ≤ h0.size) (O0 : Old Z n0 h0) (V_ob : Arv Z h0 ob kk ((.object "org/serialis/net/Protocol$Request")) (20 : Int32) [(.ref w0), (.ref w1), (.ref w2), (.ref w3), (.ref w4), (.ref w5), (.ref w6), (.ref w7), (.ref w8), (.ref w9), .null, .null, .null, .null, .null, .null, .null, .null, .null, .null] .null) (S_TAKE_PRIORITY : Sta Z Z.heap "org/serialis/net/Protocol$Request" "TAKE_PRIORITY" "Lorg/serialis/net/Protocol$Request;" (.ref w10)) (E_w10 : Exa Z Z.heap w10 "org/serialis/net/Protocol$Request")
    (kont : ∀ T' h' locs', Stand p l e R s m args below meth c T' locs' cells slots → T'.heap = h' → Fr n0 locs' → n0 ≤ h'.size → Old Z n0 h' → Arv Z h' ob kk ((.object "org/serialis/net/Protocol$Request")) (20 : Int32) [(.ref w0), (.ref w1), (.ref w2), (.ref w3), (.ref w4), (.ref w5), (.ref w6), (.ref w7), (.ref w8), (.ref w9), (.ref w10), .null, .null, .null, .null, .null, .null, .null, .null, .null] .null → Goes p e below W (sF T' m 76 #[iv p1, .unset, .unset, .unset] [(.ref ob)])) :
    Goes p e below W (sF T0 m 69 #[iv p1, .unset, .unset, .unset] [(.ref ob)]) := by
  show Goes p e below _ (sF T0 m 69 #[iv p1, .unset, .unset, .unset] [(.ref ob)])
  refine Goes.step ?_ (fun _ k => XS.dup X0.here hx rfl (hb hby at_69) rfl rfl k)
  show Goes p e below _ (sF T0 m 70 #[iv p1, .unset, .unset, .unset] [(.ref ob), (.ref ob)])
  refine Goes.step ?_ (fun _ k => XS.bipush X0.here hx rfl (hb hby at_70) k)
  show Goes p e below _ (sF T0 m 72 #[iv p1, .unset, .unset, .unset] [(.int (10 : Int32)), (.ref ob), (.ref ob)])
  obtain ⟨T1, X1, e1, st1⟩ := getS2 X0 hx hZ hown (host := "") (Or.inl (hw _ (List.mem_of_getElem? (i := 24) rfl))) Via.refl e0 (S_TAKE_PRIORITY.ext O0.2) (g := (mkF m 72 #[iv p1, .unset, .unset, .unset] [(.int (10 : Int32)), (.ref ob), (.ref ob)])) rfl (hb hby at_72)
  refine Goes.step ?_ st1
  show Goes p e below _ (sF T1 m 75 #[iv p1, .unset, .unset, .unset] [(.ref w10), (.int (10 : Int32)), (.ref ob), (.ref ob)])
  obtain ⟨cl2, Ar2, q2, S2, N_2, H2, G2⟩ := id V_ob
  have hin3 : ¬ ((10 : Int32) < 0 ∨ cl2.slots.size ≤ ((10 : Int32)).toNatClampNeg) := inb_of S2 ⟨by decide, by decide⟩
  obtain ⟨T3, h3, X3, e3, W3, st3⟩ := stR X1 hx hZ e1 Ar2 (j := (10 : Int32)) hin3 rfl (Sto.ofV Ar2 q2 Ov (Ins.self (E_w10.ext O0.2))) (g := (mkF m 75 #[iv p1, .unset, .unset, .unset] [(.ref w10), (.int (10 : Int32)), (.ref ob), (.ref ob)])) rfl rfl (hb hby at_75)
  have V_3 : Arv Z h3 ob kk ((.object "org/serialis/net/Protocol$Request")) (20 : Int32) [(.ref w0), (.ref w1), (.ref w2), (.ref w3), (.ref w4), (.ref w5), (.ref w6), (.ref w7), (.ref w8), (.ref w9), (.ref w10), .null, .null, .null, .null, .null, .null, .null, .null, .null] .null := Arv.set Ar2 q2 S2 N_2 H2 G2 rfl W3 10 rfl (Nat.le_of_ble_eq_true rfl)
  have Zs3 : n0 ≤ h3.size := Nat.le_trans Z0 (Keep.of_wr W3).1
  have N3 := Fr.snoc X3 N0 g_ob
  refine Goes.step ?_ st3
  show Goes p e below _ (sF T3 m 76 #[iv p1, .unset, .unset, .unset] [(.ref ob)])
  have O_4 := (O0.wr W3 g_ob)
  exact kont _ _ _ X3 e3 N3 Zs3 O_4 V_3
set_option maxRecDepth 65536 in
set_option maxHeartbeats 40000000 in
theorem seg11 {p : Program} {l : Launch} {e : Env} {R : Room} {s : State} {m : MethodId} {args : Array Value} {below : List Frame} {meth : Method} {c : Code} {T0 : State} {locs : List Loc} {cells slots : Nat} {Z : State} {a0 : Array Value} {h0 : Heap} {n0 : Nat} {W : Outcome → State → Prop} {p1 : Int32} {ob : Addr} {kk : ClassId} {w0 : Addr} {w1 : Addr} {w2 : Addr} {w3 : Addr} {w4 : Addr} {w5 : Addr} {w6 : Addr} {w7 : Addr} {w8 : Addr} {w9 : Addr} {w10 : Addr} {w11 : Addr}
    (X0 : Stand p l e R s m args below meth c T0 locs cells slots) (hx : p.tables.exec = Jvm.exec) (hZ : Z.Warmed39 s.vm) (hw : ∀ d ∈ tables_1, d.before a0 Z = true) (hby : c.code = code) (hown : s.vm.findClass "org/serialis/net/RequestIsByClientPinLaw" = some m.cls) (g_ob : n0 ≤ ob) (Ov : Ovr Z kk "org/serialis/net/Protocol$Request") (e0 : T0.heap = h0) (N0 : Fr n0 locs) (Z0 : n0 ≤ h0.size) (O0 : Old Z n0 h0) (V_ob : Arv Z h0 ob kk ((.object "org/serialis/net/Protocol$Request")) (20 : Int32) [(.ref w0), (.ref w1), (.ref w2), (.ref w3), (.ref w4), (.ref w5), (.ref w6), (.ref w7), (.ref w8), (.ref w9), (.ref w10), .null, .null, .null, .null, .null, .null, .null, .null, .null] .null) (S_COMMIT : Sta Z Z.heap "org/serialis/net/Protocol$Request" "COMMIT" "Lorg/serialis/net/Protocol$Request;" (.ref w11)) (E_w11 : Exa Z Z.heap w11 "org/serialis/net/Protocol$Request")
    (kont : ∀ T' h' locs', Stand p l e R s m args below meth c T' locs' cells slots → T'.heap = h' → Fr n0 locs' → n0 ≤ h'.size → Old Z n0 h' → Arv Z h' ob kk ((.object "org/serialis/net/Protocol$Request")) (20 : Int32) [(.ref w0), (.ref w1), (.ref w2), (.ref w3), (.ref w4), (.ref w5), (.ref w6), (.ref w7), (.ref w8), (.ref w9), (.ref w10), (.ref w11), .null, .null, .null, .null, .null, .null, .null, .null] .null → Goes p e below W (sF T' m 83 #[iv p1, .unset, .unset, .unset] [(.ref ob)])) :
    Goes p e below W (sF T0 m 76 #[iv p1, .unset, .unset, .unset] [(.ref ob)]) := by
  show Goes p e below _ (sF T0 m 76 #[iv p1, .unset, .unset, .unset] [(.ref ob)])
  refine Goes.step ?_ (fun _ k => XS.dup X0.here hx rfl (hb hby at_76) rfl rfl k)
  show Goes p e below _ (sF T0 m 77 #[iv p1, .unset, .unset, .unset] [(.ref ob), (.ref ob)])
  refine Goes.step ?_ (fun _ k => XS.bipush X0.here hx rfl (hb hby at_77) k)
  show Goes p e below _ (sF T0 m 79 #[iv p1, .unset, .unset, .unset] [(.int (11 : Int32)), (.ref ob), (.ref ob)])
  obtain ⟨T1, X1, e1, st1⟩ := getS2 X0 hx hZ hown (host := "") (Or.inl (hw _ (List.mem_of_getElem? (i := 26) rfl))) Via.refl e0 (S_COMMIT.ext O0.2) (g := (mkF m 79 #[iv p1, .unset, .unset, .unset] [(.int (11 : Int32)), (.ref ob), (.ref ob)])) rfl (hb hby at_79)
  refine Goes.step ?_ st1
  show Goes p e below _ (sF T1 m 82 #[iv p1, .unset, .unset, .unset] [(.ref w11), (.int (11 : Int32)), (.ref ob), (.ref ob)])
  obtain ⟨cl2, Ar2, q2, S2, N_2, H2, G2⟩ := id V_ob
  have hin3 : ¬ ((11 : Int32) < 0 ∨ cl2.slots.size ≤ ((11 : Int32)).toNatClampNeg) := inb_of S2 ⟨by decide, by decide⟩
  obtain ⟨T3, h3, X3, e3, W3, st3⟩ := stR X1 hx hZ e1 Ar2 (j := (11 : Int32)) hin3 rfl (Sto.ofV Ar2 q2 Ov (Ins.self (E_w11.ext O0.2))) (g := (mkF m 82 #[iv p1, .unset, .unset, .unset] [(.ref w11), (.int (11 : Int32)), (.ref ob), (.ref ob)])) rfl rfl (hb hby at_82)
  have V_3 : Arv Z h3 ob kk ((.object "org/serialis/net/Protocol$Request")) (20 : Int32) [(.ref w0), (.ref w1), (.ref w2), (.ref w3), (.ref w4), (.ref w5), (.ref w6), (.ref w7), (.ref w8), (.ref w9), (.ref w10), (.ref w11), .null, .null, .null, .null, .null, .null, .null, .null] .null := Arv.set Ar2 q2 S2 N_2 H2 G2 rfl W3 11 rfl (Nat.le_of_ble_eq_true rfl)
  have Zs3 : n0 ≤ h3.size := Nat.le_trans Z0 (Keep.of_wr W3).1
  have N3 := Fr.snoc X3 N0 g_ob
  refine Goes.step ?_ st3
  show Goes p e below _ (sF T3 m 83 #[iv p1, .unset, .unset, .unset] [(.ref ob)])
  have O_4 := (O0.wr W3 g_ob)
  exact kont _ _ _ X3 e3 N3 Zs3 O_4 V_3
set_option maxRecDepth 65536 in
set_option maxHeartbeats 40000000 in
theorem seg12 {p : Program} {l : Launch} {e : Env} {R : Room} {s : State} {m : MethodId} {args : Array Value} {below : List Frame} {meth : Method} {c : Code} {T0 : State} {locs : List Loc} {cells slots : Nat} {Z : State} {a0 : Array Value} {h0 : Heap} {n0 : Nat} {W : Outcome → State → Prop} {p1 : Int32} {ob : Addr} {kk : ClassId} {w0 : Addr} {w1 : Addr} {w2 : Addr} {w3 : Addr} {w4 : Addr} {w5 : Addr} {w6 : Addr} {w7 : Addr} {w8 : Addr} {w9 : Addr} {w10 : Addr} {w11 : Addr} {w12 : Addr}
    (X0 : Stand p l e R s m args below meth c T0 locs cells slots) (hx : p.tables.exec = Jvm.exec) (hZ : Z.Warmed39 s.vm) (hw : ∀ d ∈ tables_1, d.before a0 Z = true) (hby : c.code = code) (hown : s.vm.findClass "org/serialis/net/RequestIsByClientPinLaw" = some m.cls) (g_ob : n0 ≤ ob) (Ov : Ovr Z kk "org/serialis/net/Protocol$Request") (e0 : T0.heap = h0) (N0 : Fr n0 locs) (Z0 : n0 ≤ h0.size) (O0 : Old Z n0 h0) (V_ob : Arv Z h0 ob kk ((.object "org/serialis/net/Protocol$Request")) (20 : Int32) [(.ref w0), (.ref w1), (.ref w2), (.ref w3), (.ref w4), (.ref w5), (.ref w6), (.ref w7), (.ref w8), (.ref w9), (.ref w10), (.ref w11), .null, .null, .null, .null, .null, .null, .null, .null] .null) (S_REJECT : Sta Z Z.heap "org/serialis/net/Protocol$Request" "REJECT" "Lorg/serialis/net/Protocol$Request;" (.ref w12)) (E_w12 : Exa Z Z.heap w12 "org/serialis/net/Protocol$Request")
    (kont : ∀ T' h' locs', Stand p l e R s m args below meth c T' locs' cells slots → T'.heap = h' → Fr n0 locs' → n0 ≤ h'.size → Old Z n0 h' → Arv Z h' ob kk ((.object "org/serialis/net/Protocol$Request")) (20 : Int32) [(.ref w0), (.ref w1), (.ref w2), (.ref w3), (.ref w4), (.ref w5), (.ref w6), (.ref w7), (.ref w8), (.ref w9), (.ref w10), (.ref w11), (.ref w12), .null, .null, .null, .null, .null, .null, .null] .null → Goes p e below W (sF T' m 90 #[iv p1, .unset, .unset, .unset] [(.ref ob)])) :
    Goes p e below W (sF T0 m 83 #[iv p1, .unset, .unset, .unset] [(.ref ob)]) := by
  show Goes p e below _ (sF T0 m 83 #[iv p1, .unset, .unset, .unset] [(.ref ob)])
  refine Goes.step ?_ (fun _ k => XS.dup X0.here hx rfl (hb hby at_83) rfl rfl k)
  show Goes p e below _ (sF T0 m 84 #[iv p1, .unset, .unset, .unset] [(.ref ob), (.ref ob)])
  refine Goes.step ?_ (fun _ k => XS.bipush X0.here hx rfl (hb hby at_84) k)
  show Goes p e below _ (sF T0 m 86 #[iv p1, .unset, .unset, .unset] [(.int (12 : Int32)), (.ref ob), (.ref ob)])
  obtain ⟨T1, X1, e1, st1⟩ := getS2 X0 hx hZ hown (host := "") (Or.inl (hw _ (List.mem_of_getElem? (i := 28) rfl))) Via.refl e0 (S_REJECT.ext O0.2) (g := (mkF m 86 #[iv p1, .unset, .unset, .unset] [(.int (12 : Int32)), (.ref ob), (.ref ob)])) rfl (hb hby at_86)
  refine Goes.step ?_ st1
  show Goes p e below _ (sF T1 m 89 #[iv p1, .unset, .unset, .unset] [(.ref w12), (.int (12 : Int32)), (.ref ob), (.ref ob)])
  obtain ⟨cl2, Ar2, q2, S2, N_2, H2, G2⟩ := id V_ob
  have hin3 : ¬ ((12 : Int32) < 0 ∨ cl2.slots.size ≤ ((12 : Int32)).toNatClampNeg) := inb_of S2 ⟨by decide, by decide⟩
  obtain ⟨T3, h3, X3, e3, W3, st3⟩ := stR X1 hx hZ e1 Ar2 (j := (12 : Int32)) hin3 rfl (Sto.ofV Ar2 q2 Ov (Ins.self (E_w12.ext O0.2))) (g := (mkF m 89 #[iv p1, .unset, .unset, .unset] [(.ref w12), (.int (12 : Int32)), (.ref ob), (.ref ob)])) rfl rfl (hb hby at_89)
  have V_3 : Arv Z h3 ob kk ((.object "org/serialis/net/Protocol$Request")) (20 : Int32) [(.ref w0), (.ref w1), (.ref w2), (.ref w3), (.ref w4), (.ref w5), (.ref w6), (.ref w7), (.ref w8), (.ref w9), (.ref w10), (.ref w11), (.ref w12), .null, .null, .null, .null, .null, .null, .null] .null := Arv.set Ar2 q2 S2 N_2 H2 G2 rfl W3 12 rfl (Nat.le_of_ble_eq_true rfl)
  have Zs3 : n0 ≤ h3.size := Nat.le_trans Z0 (Keep.of_wr W3).1
  have N3 := Fr.snoc X3 N0 g_ob
  refine Goes.step ?_ st3
  show Goes p e below _ (sF T3 m 90 #[iv p1, .unset, .unset, .unset] [(.ref ob)])
  have O_4 := (O0.wr W3 g_ob)
  exact kont _ _ _ X3 e3 N3 Zs3 O_4 V_3
set_option maxRecDepth 65536 in
set_option maxHeartbeats 40000000 in
theorem seg13 {p : Program} {l : Launch} {e : Env} {R : Room} {s : State} {m : MethodId} {args : Array Value} {below : List Frame} {meth : Method} {c : Code} {T0 : State} {locs : List Loc} {cells slots : Nat} {Z : State} {a0 : Array Value} {h0 : Heap} {n0 : Nat} {W : Outcome → State → Prop} {p1 : Int32} {ob : Addr} {kk : ClassId} {w0 : Addr} {w1 : Addr} {w2 : Addr} {w3 : Addr} {w4 : Addr} {w5 : Addr} {w6 : Addr} {w7 : Addr} {w8 : Addr} {w9 : Addr} {w10 : Addr} {w11 : Addr} {w12 : Addr} {w13 : Addr}
    (X0 : Stand p l e R s m args below meth c T0 locs cells slots) (hx : p.tables.exec = Jvm.exec) (hZ : Z.Warmed39 s.vm) (hw : ∀ d ∈ tables_1, d.before a0 Z = true) (hby : c.code = code) (hown : s.vm.findClass "org/serialis/net/RequestIsByClientPinLaw" = some m.cls) (g_ob : n0 ≤ ob) (Ov : Ovr Z kk "org/serialis/net/Protocol$Request") (e0 : T0.heap = h0) (N0 : Fr n0 locs) (Z0 : n0 ≤ h0.size) (O0 : Old Z n0 h0) (V_ob : Arv Z h0 ob kk ((.object "org/serialis/net/Protocol$Request")) (20 : Int32) [(.ref w0), (.ref w1), (.ref w2), (.ref w3), (.ref w4), (.ref w5), (.ref w6), (.ref w7), (.ref w8), (.ref w9), (.ref w10), (.ref w11), (.ref w12), .null, .null, .null, .null, .null, .null, .null] .null) (S_OUTCOME : Sta Z Z.heap "org/serialis/net/Protocol$Request" "OUTCOME" "Lorg/serialis/net/Protocol$Request;" (.ref w13)) (E_w13 : Exa Z Z.heap w13 "org/serialis/net/Protocol$Request")
    (kont : ∀ T' h' locs', Stand p l e R s m args below meth c T' locs' cells slots → T'.heap = h' → Fr n0 locs' → n0 ≤ h'.size → Old Z n0 h' → Arv Z h' ob kk ((.object "org/serialis/net/Protocol$Request")) (20 : Int32) [(.ref w0), (.ref w1), (.ref w2), (.ref w3), (.ref w4), (.ref w5), (.ref w6), (.ref w7), (.ref w8), (.ref w9), (.ref w10), (.ref w11), (.ref w12), (.ref w13), .null, .null, .null, .null, .null, .null] .null → Goes p e below W (sF T' m 97 #[iv p1, .unset, .unset, .unset] [(.ref ob)])) :
    Goes p e below W (sF T0 m 90 #[iv p1, .unset, .unset, .unset] [(.ref ob)]) := by
  show Goes p e below _ (sF T0 m 90 #[iv p1, .unset, .unset, .unset] [(.ref ob)])
  refine Goes.step ?_ (fun _ k => XS.dup X0.here hx rfl (hb hby at_90) rfl rfl k)
  show Goes p e below _ (sF T0 m 91 #[iv p1, .unset, .unset, .unset] [(.ref ob), (.ref ob)])
  refine Goes.step ?_ (fun _ k => XS.bipush X0.here hx rfl (hb hby at_91) k)
  show Goes p e below _ (sF T0 m 93 #[iv p1, .unset, .unset, .unset] [(.int (13 : Int32)), (.ref ob), (.ref ob)])
  obtain ⟨T1, X1, e1, st1⟩ := getS2 X0 hx hZ hown (host := "") (Or.inl (hw _ (List.mem_of_getElem? (i := 30) rfl))) Via.refl e0 (S_OUTCOME.ext O0.2) (g := (mkF m 93 #[iv p1, .unset, .unset, .unset] [(.int (13 : Int32)), (.ref ob), (.ref ob)])) rfl (hb hby at_93)
  refine Goes.step ?_ st1
  show Goes p e below _ (sF T1 m 96 #[iv p1, .unset, .unset, .unset] [(.ref w13), (.int (13 : Int32)), (.ref ob), (.ref ob)])
  obtain ⟨cl2, Ar2, q2, S2, N_2, H2, G2⟩ := id V_ob
  have hin3 : ¬ ((13 : Int32) < 0 ∨ cl2.slots.size ≤ ((13 : Int32)).toNatClampNeg) := inb_of S2 ⟨by decide, by decide⟩
  obtain ⟨T3, h3, X3, e3, W3, st3⟩ := stR X1 hx hZ e1 Ar2 (j := (13 : Int32)) hin3 rfl (Sto.ofV Ar2 q2 Ov (Ins.self (E_w13.ext O0.2))) (g := (mkF m 96 #[iv p1, .unset, .unset, .unset] [(.ref w13), (.int (13 : Int32)), (.ref ob), (.ref ob)])) rfl rfl (hb hby at_96)
  have V_3 : Arv Z h3 ob kk ((.object "org/serialis/net/Protocol$Request")) (20 : Int32) [(.ref w0), (.ref w1), (.ref w2), (.ref w3), (.ref w4), (.ref w5), (.ref w6), (.ref w7), (.ref w8), (.ref w9), (.ref w10), (.ref w11), (.ref w12), (.ref w13), .null, .null, .null, .null, .null, .null] .null := Arv.set Ar2 q2 S2 N_2 H2 G2 rfl W3 13 rfl (Nat.le_of_ble_eq_true rfl)
  have Zs3 : n0 ≤ h3.size := Nat.le_trans Z0 (Keep.of_wr W3).1
  have N3 := Fr.snoc X3 N0 g_ob
  refine Goes.step ?_ st3
  show Goes p e below _ (sF T3 m 97 #[iv p1, .unset, .unset, .unset] [(.ref ob)])
  have O_4 := (O0.wr W3 g_ob)
  exact kont _ _ _ X3 e3 N3 Zs3 O_4 V_3
set_option maxRecDepth 65536 in
set_option maxHeartbeats 40000000 in
theorem seg14 {p : Program} {l : Launch} {e : Env} {R : Room} {s : State} {m : MethodId} {args : Array Value} {below : List Frame} {meth : Method} {c : Code} {T0 : State} {locs : List Loc} {cells slots : Nat} {Z : State} {a0 : Array Value} {h0 : Heap} {n0 : Nat} {W : Outcome → State → Prop} {p1 : Int32} {ob : Addr} {kk : ClassId} {w0 : Addr} {w1 : Addr} {w2 : Addr} {w3 : Addr} {w4 : Addr} {w5 : Addr} {w6 : Addr} {w7 : Addr} {w8 : Addr} {w9 : Addr} {w10 : Addr} {w11 : Addr} {w12 : Addr} {w13 : Addr} {w14 : Addr}
    (X0 : Stand p l e R s m args below meth c T0 locs cells slots) (hx : p.tables.exec = Jvm.exec) (hZ : Z.Warmed39 s.vm) (hw : ∀ d ∈ tables_1, d.before a0 Z = true) (hby : c.code = code) (hown : s.vm.findClass "org/serialis/net/RequestIsByClientPinLaw" = some m.cls) (g_ob : n0 ≤ ob) (Ov : Ovr Z kk "org/serialis/net/Protocol$Request") (e0 : T0.heap = h0) (N0 : Fr n0 locs) (Z0 : n0 ≤ h0.size) (O0 : Old Z n0 h0) (V_ob : Arv Z h0 ob kk ((.object "org/serialis/net/Protocol$Request")) (20 : Int32) [(.ref w0), (.ref w1), (.ref w2), (.ref w3), (.ref w4), (.ref w5), (.ref w6), (.ref w7), (.ref w8), (.ref w9), (.ref w10), (.ref w11), (.ref w12), (.ref w13), .null, .null, .null, .null, .null, .null] .null) (S_SETTLE : Sta Z Z.heap "org/serialis/net/Protocol$Request" "SETTLE" "Lorg/serialis/net/Protocol$Request;" (.ref w14)) (E_w14 : Exa Z Z.heap w14 "org/serialis/net/Protocol$Request")
    (kont : ∀ T' h' locs', Stand p l e R s m args below meth c T' locs' cells slots → T'.heap = h' → Fr n0 locs' → n0 ≤ h'.size → Old Z n0 h' → Arv Z h' ob kk ((.object "org/serialis/net/Protocol$Request")) (20 : Int32) [(.ref w0), (.ref w1), (.ref w2), (.ref w3), (.ref w4), (.ref w5), (.ref w6), (.ref w7), (.ref w8), (.ref w9), (.ref w10), (.ref w11), (.ref w12), (.ref w13), (.ref w14), .null, .null, .null, .null, .null] .null → Goes p e below W (sF T' m 104 #[iv p1, .unset, .unset, .unset] [(.ref ob)])) :
    Goes p e below W (sF T0 m 97 #[iv p1, .unset, .unset, .unset] [(.ref ob)]) := by
  show Goes p e below _ (sF T0 m 97 #[iv p1, .unset, .unset, .unset] [(.ref ob)])
  refine Goes.step ?_ (fun _ k => XS.dup X0.here hx rfl (hb hby at_97) rfl rfl k)
  show Goes p e below _ (sF T0 m 98 #[iv p1, .unset, .unset, .unset] [(.ref ob), (.ref ob)])
  refine Goes.step ?_ (fun _ k => XS.bipush X0.here hx rfl (hb hby at_98) k)
  show Goes p e below _ (sF T0 m 100 #[iv p1, .unset, .unset, .unset] [(.int (14 : Int32)), (.ref ob), (.ref ob)])
  obtain ⟨T1, X1, e1, st1⟩ := getS2 X0 hx hZ hown (host := "") (Or.inl (hw _ (List.mem_of_getElem? (i := 32) rfl))) Via.refl e0 (S_SETTLE.ext O0.2) (g := (mkF m 100 #[iv p1, .unset, .unset, .unset] [(.int (14 : Int32)), (.ref ob), (.ref ob)])) rfl (hb hby at_100)
  refine Goes.step ?_ st1
  show Goes p e below _ (sF T1 m 103 #[iv p1, .unset, .unset, .unset] [(.ref w14), (.int (14 : Int32)), (.ref ob), (.ref ob)])
  obtain ⟨cl2, Ar2, q2, S2, N_2, H2, G2⟩ := id V_ob
  have hin3 : ¬ ((14 : Int32) < 0 ∨ cl2.slots.size ≤ ((14 : Int32)).toNatClampNeg) := inb_of S2 ⟨by decide, by decide⟩
  obtain ⟨T3, h3, X3, e3, W3, st3⟩ := stR X1 hx hZ e1 Ar2 (j := (14 : Int32)) hin3 rfl (Sto.ofV Ar2 q2 Ov (Ins.self (E_w14.ext O0.2))) (g := (mkF m 103 #[iv p1, .unset, .unset, .unset] [(.ref w14), (.int (14 : Int32)), (.ref ob), (.ref ob)])) rfl rfl (hb hby at_103)
  have V_3 : Arv Z h3 ob kk ((.object "org/serialis/net/Protocol$Request")) (20 : Int32) [(.ref w0), (.ref w1), (.ref w2), (.ref w3), (.ref w4), (.ref w5), (.ref w6), (.ref w7), (.ref w8), (.ref w9), (.ref w10), (.ref w11), (.ref w12), (.ref w13), (.ref w14), .null, .null, .null, .null, .null] .null := Arv.set Ar2 q2 S2 N_2 H2 G2 rfl W3 14 rfl (Nat.le_of_ble_eq_true rfl)
  have Zs3 : n0 ≤ h3.size := Nat.le_trans Z0 (Keep.of_wr W3).1
  have N3 := Fr.snoc X3 N0 g_ob
  refine Goes.step ?_ st3
  show Goes p e below _ (sF T3 m 104 #[iv p1, .unset, .unset, .unset] [(.ref ob)])
  have O_4 := (O0.wr W3 g_ob)
  exact kont _ _ _ X3 e3 N3 Zs3 O_4 V_3
set_option maxRecDepth 65536 in
set_option maxHeartbeats 40000000 in
theorem seg15 {p : Program} {l : Launch} {e : Env} {R : Room} {s : State} {m : MethodId} {args : Array Value} {below : List Frame} {meth : Method} {c : Code} {T0 : State} {locs : List Loc} {cells slots : Nat} {Z : State} {a0 : Array Value} {h0 : Heap} {n0 : Nat} {W : Outcome → State → Prop} {p1 : Int32} {ob : Addr} {kk : ClassId} {w0 : Addr} {w1 : Addr} {w2 : Addr} {w3 : Addr} {w4 : Addr} {w5 : Addr} {w6 : Addr} {w7 : Addr} {w8 : Addr} {w9 : Addr} {w10 : Addr} {w11 : Addr} {w12 : Addr} {w13 : Addr} {w14 : Addr} {w15 : Addr}
    (X0 : Stand p l e R s m args below meth c T0 locs cells slots) (hx : p.tables.exec = Jvm.exec) (hZ : Z.Warmed39 s.vm) (hw : ∀ d ∈ tables_1, d.before a0 Z = true) (hby : c.code = code) (hown : s.vm.findClass "org/serialis/net/RequestIsByClientPinLaw" = some m.cls) (g_ob : n0 ≤ ob) (Ov : Ovr Z kk "org/serialis/net/Protocol$Request") (e0 : T0.heap = h0) (N0 : Fr n0 locs) (Z0 : n0 ≤ h0.size) (O0 : Old Z n0 h0) (V_ob : Arv Z h0 ob kk ((.object "org/serialis/net/Protocol$Request")) (20 : Int32) [(.ref w0), (.ref w1), (.ref w2), (.ref w3), (.ref w4), (.ref w5), (.ref w6), (.ref w7), (.ref w8), (.ref w9), (.ref w10), (.ref w11), (.ref w12), (.ref w13), (.ref w14), .null, .null, .null, .null, .null] .null) (S_RELEASE : Sta Z Z.heap "org/serialis/net/Protocol$Request" "RELEASE" "Lorg/serialis/net/Protocol$Request;" (.ref w15)) (E_w15 : Exa Z Z.heap w15 "org/serialis/net/Protocol$Request")
    (kont : ∀ T' h' locs', Stand p l e R s m args below meth c T' locs' cells slots → T'.heap = h' → Fr n0 locs' → n0 ≤ h'.size → Old Z n0 h' → Arv Z h' ob kk ((.object "org/serialis/net/Protocol$Request")) (20 : Int32) [(.ref w0), (.ref w1), (.ref w2), (.ref w3), (.ref w4), (.ref w5), (.ref w6), (.ref w7), (.ref w8), (.ref w9), (.ref w10), (.ref w11), (.ref w12), (.ref w13), (.ref w14), (.ref w15), .null, .null, .null, .null] .null → Goes p e below W (sF T' m 111 #[iv p1, .unset, .unset, .unset] [(.ref ob)])) :
    Goes p e below W (sF T0 m 104 #[iv p1, .unset, .unset, .unset] [(.ref ob)]) := by
  show Goes p e below _ (sF T0 m 104 #[iv p1, .unset, .unset, .unset] [(.ref ob)])
  refine Goes.step ?_ (fun _ k => XS.dup X0.here hx rfl (hb hby at_104) rfl rfl k)
  show Goes p e below _ (sF T0 m 105 #[iv p1, .unset, .unset, .unset] [(.ref ob), (.ref ob)])
  refine Goes.step ?_ (fun _ k => XS.bipush X0.here hx rfl (hb hby at_105) k)
  show Goes p e below _ (sF T0 m 107 #[iv p1, .unset, .unset, .unset] [(.int (15 : Int32)), (.ref ob), (.ref ob)])
  obtain ⟨T1, X1, e1, st1⟩ := getS2 X0 hx hZ hown (host := "") (Or.inl (hw _ (List.mem_of_getElem? (i := 34) rfl))) Via.refl e0 (S_RELEASE.ext O0.2) (g := (mkF m 107 #[iv p1, .unset, .unset, .unset] [(.int (15 : Int32)), (.ref ob), (.ref ob)])) rfl (hb hby at_107)
  refine Goes.step ?_ st1
  show Goes p e below _ (sF T1 m 110 #[iv p1, .unset, .unset, .unset] [(.ref w15), (.int (15 : Int32)), (.ref ob), (.ref ob)])
  obtain ⟨cl2, Ar2, q2, S2, N_2, H2, G2⟩ := id V_ob
  have hin3 : ¬ ((15 : Int32) < 0 ∨ cl2.slots.size ≤ ((15 : Int32)).toNatClampNeg) := inb_of S2 ⟨by decide, by decide⟩
  obtain ⟨T3, h3, X3, e3, W3, st3⟩ := stR X1 hx hZ e1 Ar2 (j := (15 : Int32)) hin3 rfl (Sto.ofV Ar2 q2 Ov (Ins.self (E_w15.ext O0.2))) (g := (mkF m 110 #[iv p1, .unset, .unset, .unset] [(.ref w15), (.int (15 : Int32)), (.ref ob), (.ref ob)])) rfl rfl (hb hby at_110)
  have V_3 : Arv Z h3 ob kk ((.object "org/serialis/net/Protocol$Request")) (20 : Int32) [(.ref w0), (.ref w1), (.ref w2), (.ref w3), (.ref w4), (.ref w5), (.ref w6), (.ref w7), (.ref w8), (.ref w9), (.ref w10), (.ref w11), (.ref w12), (.ref w13), (.ref w14), (.ref w15), .null, .null, .null, .null] .null := Arv.set Ar2 q2 S2 N_2 H2 G2 rfl W3 15 rfl (Nat.le_of_ble_eq_true rfl)
  have Zs3 : n0 ≤ h3.size := Nat.le_trans Z0 (Keep.of_wr W3).1
  have N3 := Fr.snoc X3 N0 g_ob
  refine Goes.step ?_ st3
  show Goes p e below _ (sF T3 m 111 #[iv p1, .unset, .unset, .unset] [(.ref ob)])
  have O_4 := (O0.wr W3 g_ob)
  exact kont _ _ _ X3 e3 N3 Zs3 O_4 V_3
set_option maxRecDepth 65536 in
set_option maxHeartbeats 40000000 in
theorem seg16 {p : Program} {l : Launch} {e : Env} {R : Room} {s : State} {m : MethodId} {args : Array Value} {below : List Frame} {meth : Method} {c : Code} {T0 : State} {locs : List Loc} {cells slots : Nat} {Z : State} {a0 : Array Value} {h0 : Heap} {n0 : Nat} {W : Outcome → State → Prop} {p1 : Int32} {ob : Addr} {kk : ClassId} {w0 : Addr} {w1 : Addr} {w2 : Addr} {w3 : Addr} {w4 : Addr} {w5 : Addr} {w6 : Addr} {w7 : Addr} {w8 : Addr} {w9 : Addr} {w10 : Addr} {w11 : Addr} {w12 : Addr} {w13 : Addr} {w14 : Addr} {w15 : Addr} {w16 : Addr}
    (X0 : Stand p l e R s m args below meth c T0 locs cells slots) (hx : p.tables.exec = Jvm.exec) (hZ : Z.Warmed39 s.vm) (hw : ∀ d ∈ tables_1, d.before a0 Z = true) (hby : c.code = code) (hown : s.vm.findClass "org/serialis/net/RequestIsByClientPinLaw" = some m.cls) (g_ob : n0 ≤ ob) (Ov : Ovr Z kk "org/serialis/net/Protocol$Request") (e0 : T0.heap = h0) (N0 : Fr n0 locs) (Z0 : n0 ≤ h0.size) (O0 : Old Z n0 h0) (V_ob : Arv Z h0 ob kk ((.object "org/serialis/net/Protocol$Request")) (20 : Int32) [(.ref w0), (.ref w1), (.ref w2), (.ref w3), (.ref w4), (.ref w5), (.ref w6), (.ref w7), (.ref w8), (.ref w9), (.ref w10), (.ref w11), (.ref w12), (.ref w13), (.ref w14), (.ref w15), .null, .null, .null, .null] .null) (S_PARK : Sta Z Z.heap "org/serialis/net/Protocol$Request" "PARK" "Lorg/serialis/net/Protocol$Request;" (.ref w16)) (E_w16 : Exa Z Z.heap w16 "org/serialis/net/Protocol$Request")
    (kont : ∀ T' h' locs', Stand p l e R s m args below meth c T' locs' cells slots → T'.heap = h' → Fr n0 locs' → n0 ≤ h'.size → Old Z n0 h' → Arv Z h' ob kk ((.object "org/serialis/net/Protocol$Request")) (20 : Int32) [(.ref w0), (.ref w1), (.ref w2), (.ref w3), (.ref w4), (.ref w5), (.ref w6), (.ref w7), (.ref w8), (.ref w9), (.ref w10), (.ref w11), (.ref w12), (.ref w13), (.ref w14), (.ref w15), (.ref w16), .null, .null, .null] .null → Goes p e below W (sF T' m 118 #[iv p1, .unset, .unset, .unset] [(.ref ob)])) :
    Goes p e below W (sF T0 m 111 #[iv p1, .unset, .unset, .unset] [(.ref ob)]) := by
  show Goes p e below _ (sF T0 m 111 #[iv p1, .unset, .unset, .unset] [(.ref ob)])
  refine Goes.step ?_ (fun _ k => XS.dup X0.here hx rfl (hb hby at_111) rfl rfl k)
  show Goes p e below _ (sF T0 m 112 #[iv p1, .unset, .unset, .unset] [(.ref ob), (.ref ob)])
  refine Goes.step ?_ (fun _ k => XS.bipush X0.here hx rfl (hb hby at_112) k)
  show Goes p e below _ (sF T0 m 114 #[iv p1, .unset, .unset, .unset] [(.int (16 : Int32)), (.ref ob), (.ref ob)])
  obtain ⟨T1, X1, e1, st1⟩ := getS2 X0 hx hZ hown (host := "") (Or.inl (hw _ (List.mem_of_getElem? (i := 36) rfl))) Via.refl e0 (S_PARK.ext O0.2) (g := (mkF m 114 #[iv p1, .unset, .unset, .unset] [(.int (16 : Int32)), (.ref ob), (.ref ob)])) rfl (hb hby at_114)
  refine Goes.step ?_ st1
  show Goes p e below _ (sF T1 m 117 #[iv p1, .unset, .unset, .unset] [(.ref w16), (.int (16 : Int32)), (.ref ob), (.ref ob)])
  obtain ⟨cl2, Ar2, q2, S2, N_2, H2, G2⟩ := id V_ob
  have hin3 : ¬ ((16 : Int32) < 0 ∨ cl2.slots.size ≤ ((16 : Int32)).toNatClampNeg) := inb_of S2 ⟨by decide, by decide⟩
  obtain ⟨T3, h3, X3, e3, W3, st3⟩ := stR X1 hx hZ e1 Ar2 (j := (16 : Int32)) hin3 rfl (Sto.ofV Ar2 q2 Ov (Ins.self (E_w16.ext O0.2))) (g := (mkF m 117 #[iv p1, .unset, .unset, .unset] [(.ref w16), (.int (16 : Int32)), (.ref ob), (.ref ob)])) rfl rfl (hb hby at_117)
  have V_3 : Arv Z h3 ob kk ((.object "org/serialis/net/Protocol$Request")) (20 : Int32) [(.ref w0), (.ref w1), (.ref w2), (.ref w3), (.ref w4), (.ref w5), (.ref w6), (.ref w7), (.ref w8), (.ref w9), (.ref w10), (.ref w11), (.ref w12), (.ref w13), (.ref w14), (.ref w15), (.ref w16), .null, .null, .null] .null := Arv.set Ar2 q2 S2 N_2 H2 G2 rfl W3 16 rfl (Nat.le_of_ble_eq_true rfl)
  have Zs3 : n0 ≤ h3.size := Nat.le_trans Z0 (Keep.of_wr W3).1
  have N3 := Fr.snoc X3 N0 g_ob
  refine Goes.step ?_ st3
  show Goes p e below _ (sF T3 m 118 #[iv p1, .unset, .unset, .unset] [(.ref ob)])
  have O_4 := (O0.wr W3 g_ob)
  exact kont _ _ _ X3 e3 N3 Zs3 O_4 V_3
set_option maxRecDepth 65536 in
set_option maxHeartbeats 40000000 in
theorem seg17 {p : Program} {l : Launch} {e : Env} {R : Room} {s : State} {m : MethodId} {args : Array Value} {below : List Frame} {meth : Method} {c : Code} {T0 : State} {locs : List Loc} {cells slots : Nat} {Z : State} {a0 : Array Value} {h0 : Heap} {n0 : Nat} {W : Outcome → State → Prop} {p1 : Int32} {ob : Addr} {kk : ClassId} {w0 : Addr} {w1 : Addr} {w2 : Addr} {w3 : Addr} {w4 : Addr} {w5 : Addr} {w6 : Addr} {w7 : Addr} {w8 : Addr} {w9 : Addr} {w10 : Addr} {w11 : Addr} {w12 : Addr} {w13 : Addr} {w14 : Addr} {w15 : Addr} {w16 : Addr} {w17 : Addr}
    (X0 : Stand p l e R s m args below meth c T0 locs cells slots) (hx : p.tables.exec = Jvm.exec) (hZ : Z.Warmed39 s.vm) (hw : ∀ d ∈ tables_1, d.before a0 Z = true) (hby : c.code = code) (hown : s.vm.findClass "org/serialis/net/RequestIsByClientPinLaw" = some m.cls) (g_ob : n0 ≤ ob) (Ov : Ovr Z kk "org/serialis/net/Protocol$Request") (e0 : T0.heap = h0) (N0 : Fr n0 locs) (Z0 : n0 ≤ h0.size) (O0 : Old Z n0 h0) (V_ob : Arv Z h0 ob kk ((.object "org/serialis/net/Protocol$Request")) (20 : Int32) [(.ref w0), (.ref w1), (.ref w2), (.ref w3), (.ref w4), (.ref w5), (.ref w6), (.ref w7), (.ref w8), (.ref w9), (.ref w10), (.ref w11), (.ref w12), (.ref w13), (.ref w14), (.ref w15), (.ref w16), .null, .null, .null] .null) (S_HISTORY : Sta Z Z.heap "org/serialis/net/Protocol$Request" "HISTORY" "Lorg/serialis/net/Protocol$Request;" (.ref w17)) (E_w17 : Exa Z Z.heap w17 "org/serialis/net/Protocol$Request")
    (kont : ∀ T' h' locs', Stand p l e R s m args below meth c T' locs' cells slots → T'.heap = h' → Fr n0 locs' → n0 ≤ h'.size → Old Z n0 h' → Arv Z h' ob kk ((.object "org/serialis/net/Protocol$Request")) (20 : Int32) [(.ref w0), (.ref w1), (.ref w2), (.ref w3), (.ref w4), (.ref w5), (.ref w6), (.ref w7), (.ref w8), (.ref w9), (.ref w10), (.ref w11), (.ref w12), (.ref w13), (.ref w14), (.ref w15), (.ref w16), (.ref w17), .null, .null] .null → Goes p e below W (sF T' m 125 #[iv p1, .unset, .unset, .unset] [(.ref ob)])) :
    Goes p e below W (sF T0 m 118 #[iv p1, .unset, .unset, .unset] [(.ref ob)]) := by
  show Goes p e below _ (sF T0 m 118 #[iv p1, .unset, .unset, .unset] [(.ref ob)])
  refine Goes.step ?_ (fun _ k => XS.dup X0.here hx rfl (hb hby at_118) rfl rfl k)
  show Goes p e below _ (sF T0 m 119 #[iv p1, .unset, .unset, .unset] [(.ref ob), (.ref ob)])
  refine Goes.step ?_ (fun _ k => XS.bipush X0.here hx rfl (hb hby at_119) k)
  show Goes p e below _ (sF T0 m 121 #[iv p1, .unset, .unset, .unset] [(.int (17 : Int32)), (.ref ob), (.ref ob)])
  obtain ⟨T1, X1, e1, st1⟩ := getS2 X0 hx hZ hown (host := "") (Or.inl (hw _ (List.mem_of_getElem? (i := 38) rfl))) Via.refl e0 (S_HISTORY.ext O0.2) (g := (mkF m 121 #[iv p1, .unset, .unset, .unset] [(.int (17 : Int32)), (.ref ob), (.ref ob)])) rfl (hb hby at_121)
  refine Goes.step ?_ st1
  show Goes p e below _ (sF T1 m 124 #[iv p1, .unset, .unset, .unset] [(.ref w17), (.int (17 : Int32)), (.ref ob), (.ref ob)])
  obtain ⟨cl2, Ar2, q2, S2, N_2, H2, G2⟩ := id V_ob
  have hin3 : ¬ ((17 : Int32) < 0 ∨ cl2.slots.size ≤ ((17 : Int32)).toNatClampNeg) := inb_of S2 ⟨by decide, by decide⟩
  obtain ⟨T3, h3, X3, e3, W3, st3⟩ := stR X1 hx hZ e1 Ar2 (j := (17 : Int32)) hin3 rfl (Sto.ofV Ar2 q2 Ov (Ins.self (E_w17.ext O0.2))) (g := (mkF m 124 #[iv p1, .unset, .unset, .unset] [(.ref w17), (.int (17 : Int32)), (.ref ob), (.ref ob)])) rfl rfl (hb hby at_124)
  have V_3 : Arv Z h3 ob kk ((.object "org/serialis/net/Protocol$Request")) (20 : Int32) [(.ref w0), (.ref w1), (.ref w2), (.ref w3), (.ref w4), (.ref w5), (.ref w6), (.ref w7), (.ref w8), (.ref w9), (.ref w10), (.ref w11), (.ref w12), (.ref w13), (.ref w14), (.ref w15), (.ref w16), (.ref w17), .null, .null] .null := Arv.set Ar2 q2 S2 N_2 H2 G2 rfl W3 17 rfl (Nat.le_of_ble_eq_true rfl)
  have Zs3 : n0 ≤ h3.size := Nat.le_trans Z0 (Keep.of_wr W3).1
  have N3 := Fr.snoc X3 N0 g_ob
  refine Goes.step ?_ st3
  show Goes p e below _ (sF T3 m 125 #[iv p1, .unset, .unset, .unset] [(.ref ob)])
  have O_4 := (O0.wr W3 g_ob)
  exact kont _ _ _ X3 e3 N3 Zs3 O_4 V_3
set_option maxRecDepth 65536 in
set_option maxHeartbeats 40000000 in
theorem seg18 {p : Program} {l : Launch} {e : Env} {R : Room} {s : State} {m : MethodId} {args : Array Value} {below : List Frame} {meth : Method} {c : Code} {T0 : State} {locs : List Loc} {cells slots : Nat} {Z : State} {a0 : Array Value} {h0 : Heap} {n0 : Nat} {W : Outcome → State → Prop} {p1 : Int32} {ob : Addr} {kk : ClassId} {w0 : Addr} {w1 : Addr} {w2 : Addr} {w3 : Addr} {w4 : Addr} {w5 : Addr} {w6 : Addr} {w7 : Addr} {w8 : Addr} {w9 : Addr} {w10 : Addr} {w11 : Addr} {w12 : Addr} {w13 : Addr} {w14 : Addr} {w15 : Addr} {w16 : Addr} {w17 : Addr} {w18 : Addr}
    (X0 : Stand p l e R s m args below meth c T0 locs cells slots) (hx : p.tables.exec = Jvm.exec) (hZ : Z.Warmed39 s.vm) (hw : ∀ d ∈ tables_1, d.before a0 Z = true) (hby : c.code = code) (hown : s.vm.findClass "org/serialis/net/RequestIsByClientPinLaw" = some m.cls) (g_ob : n0 ≤ ob) (Ov : Ovr Z kk "org/serialis/net/Protocol$Request") (e0 : T0.heap = h0) (N0 : Fr n0 locs) (Z0 : n0 ≤ h0.size) (O0 : Old Z n0 h0) (V_ob : Arv Z h0 ob kk ((.object "org/serialis/net/Protocol$Request")) (20 : Int32) [(.ref w0), (.ref w1), (.ref w2), (.ref w3), (.ref w4), (.ref w5), (.ref w6), (.ref w7), (.ref w8), (.ref w9), (.ref w10), (.ref w11), (.ref w12), (.ref w13), (.ref w14), (.ref w15), (.ref w16), (.ref w17), .null, .null] .null) (S_RESET : Sta Z Z.heap "org/serialis/net/Protocol$Request" "RESET" "Lorg/serialis/net/Protocol$Request;" (.ref w18)) (E_w18 : Exa Z Z.heap w18 "org/serialis/net/Protocol$Request")
    (kont : ∀ T' h' locs', Stand p l e R s m args below meth c T' locs' cells slots → T'.heap = h' → Fr n0 locs' → n0 ≤ h'.size → Old Z n0 h' → Arv Z h' ob kk ((.object "org/serialis/net/Protocol$Request")) (20 : Int32) [(.ref w0), (.ref w1), (.ref w2), (.ref w3), (.ref w4), (.ref w5), (.ref w6), (.ref w7), (.ref w8), (.ref w9), (.ref w10), (.ref w11), (.ref w12), (.ref w13), (.ref w14), (.ref w15), (.ref w16), (.ref w17), (.ref w18), .null] .null → Goes p e below W (sF T' m 132 #[iv p1, .unset, .unset, .unset] [(.ref ob)])) :
    Goes p e below W (sF T0 m 125 #[iv p1, .unset, .unset, .unset] [(.ref ob)]) := by
  show Goes p e below _ (sF T0 m 125 #[iv p1, .unset, .unset, .unset] [(.ref ob)])
  refine Goes.step ?_ (fun _ k => XS.dup X0.here hx rfl (hb hby at_125) rfl rfl k)
  show Goes p e below _ (sF T0 m 126 #[iv p1, .unset, .unset, .unset] [(.ref ob), (.ref ob)])
  refine Goes.step ?_ (fun _ k => XS.bipush X0.here hx rfl (hb hby at_126) k)
  show Goes p e below _ (sF T0 m 128 #[iv p1, .unset, .unset, .unset] [(.int (18 : Int32)), (.ref ob), (.ref ob)])
  obtain ⟨T1, X1, e1, st1⟩ := getS2 X0 hx hZ hown (host := "") (Or.inl (hw _ (List.mem_of_getElem? (i := 40) rfl))) Via.refl e0 (S_RESET.ext O0.2) (g := (mkF m 128 #[iv p1, .unset, .unset, .unset] [(.int (18 : Int32)), (.ref ob), (.ref ob)])) rfl (hb hby at_128)
  refine Goes.step ?_ st1
  show Goes p e below _ (sF T1 m 131 #[iv p1, .unset, .unset, .unset] [(.ref w18), (.int (18 : Int32)), (.ref ob), (.ref ob)])
  obtain ⟨cl2, Ar2, q2, S2, N_2, H2, G2⟩ := id V_ob
  have hin3 : ¬ ((18 : Int32) < 0 ∨ cl2.slots.size ≤ ((18 : Int32)).toNatClampNeg) := inb_of S2 ⟨by decide, by decide⟩
  obtain ⟨T3, h3, X3, e3, W3, st3⟩ := stR X1 hx hZ e1 Ar2 (j := (18 : Int32)) hin3 rfl (Sto.ofV Ar2 q2 Ov (Ins.self (E_w18.ext O0.2))) (g := (mkF m 131 #[iv p1, .unset, .unset, .unset] [(.ref w18), (.int (18 : Int32)), (.ref ob), (.ref ob)])) rfl rfl (hb hby at_131)
  have V_3 : Arv Z h3 ob kk ((.object "org/serialis/net/Protocol$Request")) (20 : Int32) [(.ref w0), (.ref w1), (.ref w2), (.ref w3), (.ref w4), (.ref w5), (.ref w6), (.ref w7), (.ref w8), (.ref w9), (.ref w10), (.ref w11), (.ref w12), (.ref w13), (.ref w14), (.ref w15), (.ref w16), (.ref w17), (.ref w18), .null] .null := Arv.set Ar2 q2 S2 N_2 H2 G2 rfl W3 18 rfl (Nat.le_of_ble_eq_true rfl)
  have Zs3 : n0 ≤ h3.size := Nat.le_trans Z0 (Keep.of_wr W3).1
  have N3 := Fr.snoc X3 N0 g_ob
  refine Goes.step ?_ st3
  show Goes p e below _ (sF T3 m 132 #[iv p1, .unset, .unset, .unset] [(.ref ob)])
  have O_4 := (O0.wr W3 g_ob)
  exact kont _ _ _ X3 e3 N3 Zs3 O_4 V_3
set_option maxRecDepth 65536 in
set_option maxHeartbeats 40000000 in
theorem seg19 {p : Program} {l : Launch} {e : Env} {R : Room} {s : State} {m : MethodId} {args : Array Value} {below : List Frame} {meth : Method} {c : Code} {T0 : State} {locs : List Loc} {cells slots : Nat} {Z : State} {a0 : Array Value} {h0 : Heap} {n0 : Nat} {W : Outcome → State → Prop} {p1 : Int32} {ob : Addr} {kk : ClassId} {w0 : Addr} {w1 : Addr} {w2 : Addr} {w3 : Addr} {w4 : Addr} {w5 : Addr} {w6 : Addr} {w7 : Addr} {w8 : Addr} {w9 : Addr} {w10 : Addr} {w11 : Addr} {w12 : Addr} {w13 : Addr} {w14 : Addr} {w15 : Addr} {w16 : Addr} {w17 : Addr} {w18 : Addr} {w19 : Addr}
    (X0 : Stand p l e R s m args below meth c T0 locs cells slots) (hx : p.tables.exec = Jvm.exec) (hZ : Z.Warmed39 s.vm) (hw : ∀ d ∈ tables_1, d.before a0 Z = true) (hby : c.code = code) (hown : s.vm.findClass "org/serialis/net/RequestIsByClientPinLaw" = some m.cls) (g_ob : n0 ≤ ob) (Ov : Ovr Z kk "org/serialis/net/Protocol$Request") (e0 : T0.heap = h0) (N0 : Fr n0 locs) (Z0 : n0 ≤ h0.size) (O0 : Old Z n0 h0) (V_ob : Arv Z h0 ob kk ((.object "org/serialis/net/Protocol$Request")) (20 : Int32) [(.ref w0), (.ref w1), (.ref w2), (.ref w3), (.ref w4), (.ref w5), (.ref w6), (.ref w7), (.ref w8), (.ref w9), (.ref w10), (.ref w11), (.ref w12), (.ref w13), (.ref w14), (.ref w15), (.ref w16), (.ref w17), (.ref w18), .null] .null) (S_HOLD : Sta Z Z.heap "org/serialis/net/Protocol$Request" "HOLD" "Lorg/serialis/net/Protocol$Request;" (.ref w19)) (E_w19 : Exa Z Z.heap w19 "org/serialis/net/Protocol$Request")
    (kont : ∀ T' h' locs', Stand p l e R s m args below meth c T' locs' cells slots → T'.heap = h' → Fr n0 locs' → n0 ≤ h'.size → Old Z n0 h' → Arv Z h' ob kk ((.object "org/serialis/net/Protocol$Request")) (20 : Int32) [(.ref w0), (.ref w1), (.ref w2), (.ref w3), (.ref w4), (.ref w5), (.ref w6), (.ref w7), (.ref w8), (.ref w9), (.ref w10), (.ref w11), (.ref w12), (.ref w13), (.ref w14), (.ref w15), (.ref w16), (.ref w17), (.ref w18), (.ref w19)] .null → Goes p e below W (sF T' m 139 #[iv p1, .unset, .unset, .unset] [(.ref ob)])) :
    Goes p e below W (sF T0 m 132 #[iv p1, .unset, .unset, .unset] [(.ref ob)]) := by
  show Goes p e below _ (sF T0 m 132 #[iv p1, .unset, .unset, .unset] [(.ref ob)])
  refine Goes.step ?_ (fun _ k => XS.dup X0.here hx rfl (hb hby at_132) rfl rfl k)
  show Goes p e below _ (sF T0 m 133 #[iv p1, .unset, .unset, .unset] [(.ref ob), (.ref ob)])
  refine Goes.step ?_ (fun _ k => XS.bipush X0.here hx rfl (hb hby at_133) k)
  show Goes p e below _ (sF T0 m 135 #[iv p1, .unset, .unset, .unset] [(.int (19 : Int32)), (.ref ob), (.ref ob)])
  obtain ⟨T1, X1, e1, st1⟩ := getS2 X0 hx hZ hown (host := "") (Or.inl (hw _ (List.mem_of_getElem? (i := 42) rfl))) Via.refl e0 (S_HOLD.ext O0.2) (g := (mkF m 135 #[iv p1, .unset, .unset, .unset] [(.int (19 : Int32)), (.ref ob), (.ref ob)])) rfl (hb hby at_135)
  refine Goes.step ?_ st1
  show Goes p e below _ (sF T1 m 138 #[iv p1, .unset, .unset, .unset] [(.ref w19), (.int (19 : Int32)), (.ref ob), (.ref ob)])
  obtain ⟨cl2, Ar2, q2, S2, N_2, H2, G2⟩ := id V_ob
  have hin3 : ¬ ((19 : Int32) < 0 ∨ cl2.slots.size ≤ ((19 : Int32)).toNatClampNeg) := inb_of S2 ⟨by decide, by decide⟩
  obtain ⟨T3, h3, X3, e3, W3, st3⟩ := stR X1 hx hZ e1 Ar2 (j := (19 : Int32)) hin3 rfl (Sto.ofV Ar2 q2 Ov (Ins.self (E_w19.ext O0.2))) (g := (mkF m 138 #[iv p1, .unset, .unset, .unset] [(.ref w19), (.int (19 : Int32)), (.ref ob), (.ref ob)])) rfl rfl (hb hby at_138)
  have V_3 : Arv Z h3 ob kk ((.object "org/serialis/net/Protocol$Request")) (20 : Int32) [(.ref w0), (.ref w1), (.ref w2), (.ref w3), (.ref w4), (.ref w5), (.ref w6), (.ref w7), (.ref w8), (.ref w9), (.ref w10), (.ref w11), (.ref w12), (.ref w13), (.ref w14), (.ref w15), (.ref w16), (.ref w17), (.ref w18), (.ref w19)] .null := Arv.set Ar2 q2 S2 N_2 H2 G2 rfl W3 19 rfl (Nat.le_of_ble_eq_true rfl)
  have Zs3 : n0 ≤ h3.size := Nat.le_trans Z0 (Keep.of_wr W3).1
  have N3 := Fr.snoc X3 N0 g_ob
  refine Goes.step ?_ st3
  show Goes p e below _ (sF T3 m 139 #[iv p1, .unset, .unset, .unset] [(.ref ob)])
  have O_4 := (O0.wr W3 g_ob)
  exact kont _ _ _ X3 e3 N3 Zs3 O_4 V_3
theorem pn_org_serialis_net_RequestIsByClientPinLaw : plainName "org/serialis/net/RequestIsByClientPinLaw" = true := by first | (simp [plainName, overriddenIn]; done) | decide +kernel
theorem ef_rm0 (m : MethodId) (x0 : Int32) : entryFrame m #[(.int x0)] maxLocals = mkF m 0 #[iv x0, .unset, .unset, .unset] [] := by first | (simp [entryFrame, mkF, argsToLocals, Value.category, maxLocals]; done) | rfl
set_option maxRecDepth 65536 in
set_option maxHeartbeats 40000000 in
theorem rm0 (l : Launch) (Z : State) (a0 : Array Value) (hw : ∀ d ∈ tables_1, d.before a0 Z = true) (ws : List Jvm.Cond) (p1 : Int32) (w0 : Addr) (w1 : Addr) (w2 : Addr) (w3 : Addr) (w4 : Addr) (w5 : Addr) (w6 : Addr) (w7 : Addr) (w8 : Addr) (w9 : Addr) (w10 : Addr) (w11 : Addr) (w12 : Addr) (w13 : Addr) (w14 : Addr) (w15 : Addr) (w16 : Addr) (w17 : Addr) (w18 : Addr) (w19 : Addr) (a : Addr) (nt : Int32) (r : Int32) (h0 : Heap) (n0 : Nat) (Z0 : n0 ≤ h0.size) (O0 : Old Z n0 h0) (S_METHOD : Sta Z Z.heap "org/serialis/net/Protocol$Request" "METHOD" "Lorg/serialis/net/Protocol$Request;" (.ref w0)) (S_ITEMS : Sta Z Z.heap "org/serialis/net/Protocol$Request" "ITEMS" "Lorg/serialis/net/Protocol$Request;" (.ref w1)) (S_VALUE : Sta Z Z.heap "org/serialis/net/Protocol$Request" "VALUE" "Lorg/serialis/net/Protocol$Request;" (.ref w2)) (S_LOCKING : Sta Z Z.heap "org/serialis/net/Protocol$Request" "LOCKING" "Lorg/serialis/net/Protocol$Request;" (.ref w3)) (S_READ : Sta Z Z.heap "org/serialis/net/Protocol$Request" "READ" "Lorg/serialis/net/Protocol$Request;" (.ref w4)) (S_RANGE : Sta Z Z.heap "org/serialis/net/Protocol$Request" "RANGE" "Lorg/serialis/net/Protocol$Request;" (.ref w5)) (S_WRITE : Sta Z Z.heap "org/serialis/net/Protocol$Request" "WRITE" "Lorg/serialis/net/Protocol$Request;" (.ref w6)) (S_CONTROL : Sta Z Z.heap "org/serialis/net/Protocol$Request" "CONTROL" "Lorg/serialis/net/Protocol$Request;" (.ref w7)) (S_CONTROL_COMMIT : Sta Z Z.heap "org/serialis/net/Protocol$Request" "CONTROL_COMMIT" "Lorg/serialis/net/Protocol$Request;" (.ref w8)) (S_ASK_PRIORITY : Sta Z Z.heap "org/serialis/net/Protocol$Request" "ASK_PRIORITY" "Lorg/serialis/net/Protocol$Request;" (.ref w9)) (S_TAKE_PRIORITY : Sta Z Z.heap "org/serialis/net/Protocol$Request" "TAKE_PRIORITY" "Lorg/serialis/net/Protocol$Request;" (.ref w10)) (S_COMMIT : Sta Z Z.heap "org/serialis/net/Protocol$Request" "COMMIT" "Lorg/serialis/net/Protocol$Request;" (.ref w11)) (S_REJECT : Sta Z Z.heap "org/serialis/net/Protocol$Request" "REJECT" "Lorg/serialis/net/Protocol$Request;" (.ref w12)) (S_OUTCOME : Sta Z Z.heap "org/serialis/net/Protocol$Request" "OUTCOME" "Lorg/serialis/net/Protocol$Request;" (.ref w13)) (S_SETTLE : Sta Z Z.heap "org/serialis/net/Protocol$Request" "SETTLE" "Lorg/serialis/net/Protocol$Request;" (.ref w14)) (S_RELEASE : Sta Z Z.heap "org/serialis/net/Protocol$Request" "RELEASE" "Lorg/serialis/net/Protocol$Request;" (.ref w15)) (S_PARK : Sta Z Z.heap "org/serialis/net/Protocol$Request" "PARK" "Lorg/serialis/net/Protocol$Request;" (.ref w16)) (S_HISTORY : Sta Z Z.heap "org/serialis/net/Protocol$Request" "HISTORY" "Lorg/serialis/net/Protocol$Request;" (.ref w17)) (S_RESET : Sta Z Z.heap "org/serialis/net/Protocol$Request" "RESET" "Lorg/serialis/net/Protocol$Request;" (.ref w18)) (S_HOLD : Sta Z Z.heap "org/serialis/net/Protocol$Request" "HOLD" "Lorg/serialis/net/Protocol$Request;" (.ref w19)) (E_w0 : Exa Z Z.heap w0 "org/serialis/net/Protocol$Request") (E_w1 : Exa Z Z.heap w1 "org/serialis/net/Protocol$Request") (E_w2 : Exa Z Z.heap w2 "org/serialis/net/Protocol$Request") (E_w3 : Exa Z Z.heap w3 "org/serialis/net/Protocol$Request") (E_w4 : Exa Z Z.heap w4 "org/serialis/net/Protocol$Request") (E_w5 : Exa Z Z.heap w5 "org/serialis/net/Protocol$Request") (E_w6 : Exa Z Z.heap w6 "org/serialis/net/Protocol$Request") (E_w7 : Exa Z Z.heap w7 "org/serialis/net/Protocol$Request") (E_w8 : Exa Z Z.heap w8 "org/serialis/net/Protocol$Request") (E_w9 : Exa Z Z.heap w9 "org/serialis/net/Protocol$Request") (E_w10 : Exa Z Z.heap w10 "org/serialis/net/Protocol$Request") (E_w11 : Exa Z Z.heap w11 "org/serialis/net/Protocol$Request") (E_w12 : Exa Z Z.heap w12 "org/serialis/net/Protocol$Request") (E_w13 : Exa Z Z.heap w13 "org/serialis/net/Protocol$Request") (E_w14 : Exa Z Z.heap w14 "org/serialis/net/Protocol$Request") (E_w15 : Exa Z Z.heap w15 "org/serialis/net/Protocol$Request") (E_w16 : Exa Z Z.heap w16 "org/serialis/net/Protocol$Request") (E_w17 : Exa Z Z.heap w17 "org/serialis/net/Protocol$Request") (E_w18 : Exa Z Z.heap w18 "org/serialis/net/Protocol$Request") (E_w19 : Exa Z Z.heap w19 "org/serialis/net/Protocol$Request") (E_a : Exa Z Z.heap a "org/serialis/net/Protocol$Request") (F_a : Fld Z Z.heap a "org/serialis/net/Protocol$Request" "namesTransaction" "Z" (.int nt)) (hge : ¬ ((p1 &&& (2147483647 : Int32)) % (20 : Int32)) < 0 ∧ ((p1 &&& (2147483647 : Int32)) % (20 : Int32)) < 20) (hel : ([(.ref w0), (.ref w1), (.ref w2), (.ref w3), (.ref w4), (.ref w5), (.ref w6), (.ref w7), (.ref w8), (.ref w9), (.ref w10), (.ref w11), (.ref w12), (.ref w13), (.ref w14), (.ref w15), (.ref w16), (.ref w17), (.ref w18), (.ref w19)] : List Value).getD (((p1 &&& (2147483647 : Int32)) % (20 : Int32))).toNatClampNeg .null = .ref a) (hcl : clientV nt a w13 w14 = r) (hexp : expV ((p1 &&& (2147483647 : Int32)) % (20 : Int32)) = r) :
    MetFree l x (head1 (Jvm.Cond.code x code maxLocals ret :: ws) room_1) (fun a U => a = #[(.int p1)] ∧ Z.Warmed39 U.vm ∧ U.heap = h0) (fun _ _ _ _ _ => True) (fun _ U o U' => ∃ v L, o = .returned v ∧ Q0 n0 v U'.heap L ∧ FrameEnd U o U' L room_1.cells room_1.slots) := by
  refine MetFree.of_bodySF (plainFor_of_name pn_org_serialis_net_RequestIsByClientPinLaw) hisR ?_
  intro p e s m args below meth c s₁ Bd hml0 hP hK
  obtain ⟨rfl, hZ, hh⟩ := hP
  have hx := Bd.exec
  have hby := Bd.bytes
  have hlk : meth.locks = false := BodyLoose.notSynchronized Bd
  have hml : c.maxLocals = 4 := hml0
  have hown : s.vm.findClass "org/serialis/net/RequestIsByClientPinLaw" = some m.cls := findClass_of_methodNamed Bd.named
  have hnm := (name_of_methodNamed Bd.named Bd.method).1
  have X0 : Stand p l e room_1 s m #[(.int p1)] below meth c s₁ [] 0 0 := Stand.of_body Bd
  have e0 : s₁.heap = h0 := by rw [← hh, Bd.state]; rfl
  have N0 := Fr.nil n0
  have hret := Bd.returns
  show Goes p e below (fun o U' => ∃ v L, o = .returned v ∧ Q0 n0 v U'.heap L ∧ FrameEnd s o U' L room_1.cells room_1.slots) (s₁.setTop (entryFrame m #[(.int p1)] maxLocals))
  refine Goes.step ?_ (fun _ k => castTop (ef_rm0 m p1) k)
  show Goes p e below _ (sF s₁ m 0 #[iv p1, .unset, .unset, .unset] [])
  refine Goes.step ?_ (fun _ k => XS.bipush X0.here hx rfl (hb hby at_0) k)
  show Goes p e below _ (sF s₁ m 2 #[iv p1, .unset, .unset, .unset] [(.int (20 : Int32))])
  obtain ⟨T1, h1, k1, X1, e1, E1, A1, O1, st1⟩ := newR X0 hx hZ hown (hw _ (List.mem_of_getElem? (i := 0) rfl)) (hw _ (List.mem_of_getElem? (i := 1) rfl)) e0 (g := (mkF m 2 #[iv p1, .unset, .unset, .unset] [(.int (20 : Int32))])) rfl (hb hby at_2) rfl (by decide) (cap := 20) (by decide) (by decide) (by decide) (by decide)
  obtain ⟨ob1, g1⟩ : ∃ z, z = h0.size := ⟨_, rfl⟩
  rw [← g1] at A1 st1
  have g_ob1 : n0 ≤ ob1 := Nat.le_trans Z0 (Nat.le_of_eq g1.symm)
  have Zs1 : n0 ≤ h1.size := Nat.le_trans Z0 E1.1
  refine Goes.step ?_ st1
  have V_ob1 : Arv Z h1 ob1 k1 (.object "org/serialis/net/Protocol$Request") (20 : Int32) [.null, .null, .null, .null, .null, .null, .null, .null, .null, .null, .null, .null, .null, .null, .null, .null, .null, .null, .null, .null] .null := (Arv.new A1 (by decide)).pad (pad_rep [] .null 20)
  show Goes p e below _ (sF T1 m 5 #[iv p1, .unset, .unset, .unset] [(.ref ob1)])
  have O_2 := (O0.ext E1)
  refine seg0 X1 hx hZ hw hby hown g_ob1 O1 e1 N0 Zs1 O_2 V_ob1 S_METHOD E_w0 ?_
  intro Ts_0 hs_0 Ls_0 Xs_0 es_0 Ns_0 Zs_0 Os_0 Vs_0
  refine seg1 Xs_0 hx hZ hw hby hown g_ob1 O1 es_0 Ns_0 Zs_0 Os_0 Vs_0 S_ITEMS E_w1 ?_
  intro Ts_1 hs_1 Ls_1 Xs_1 es_1 Ns_1 Zs_1 Os_1 Vs_1
  refine seg2 Xs_1 hx hZ hw hby hown g_ob1 O1 es_1 Ns_1 Zs_1 Os_1 Vs_1 S_VALUE E_w2 ?_
  intro Ts_2 hs_2 Ls_2 Xs_2 es_2 Ns_2 Zs_2 Os_2 Vs_2
  refine seg3 Xs_2 hx hZ hw hby hown g_ob1 O1 es_2 Ns_2 Zs_2 Os_2 Vs_2 S_LOCKING E_w3 ?_
  intro Ts_3 hs_3 Ls_3 Xs_3 es_3 Ns_3 Zs_3 Os_3 Vs_3
  refine seg4 Xs_3 hx hZ hw hby hown g_ob1 O1 es_3 Ns_3 Zs_3 Os_3 Vs_3 S_READ E_w4 ?_
  intro Ts_4 hs_4 Ls_4 Xs_4 es_4 Ns_4 Zs_4 Os_4 Vs_4
  refine seg5 Xs_4 hx hZ hw hby hown g_ob1 O1 es_4 Ns_4 Zs_4 Os_4 Vs_4 S_RANGE E_w5 ?_
  intro Ts_5 hs_5 Ls_5 Xs_5 es_5 Ns_5 Zs_5 Os_5 Vs_5
  refine seg6 Xs_5 hx hZ hw hby hown g_ob1 O1 es_5 Ns_5 Zs_5 Os_5 Vs_5 S_WRITE E_w6 ?_
  intro Ts_6 hs_6 Ls_6 Xs_6 es_6 Ns_6 Zs_6 Os_6 Vs_6
  refine seg7 Xs_6 hx hZ hw hby hown g_ob1 O1 es_6 Ns_6 Zs_6 Os_6 Vs_6 S_CONTROL E_w7 ?_
  intro Ts_7 hs_7 Ls_7 Xs_7 es_7 Ns_7 Zs_7 Os_7 Vs_7
  refine seg8 Xs_7 hx hZ hw hby hown g_ob1 O1 es_7 Ns_7 Zs_7 Os_7 Vs_7 S_CONTROL_COMMIT E_w8 ?_
  intro Ts_8 hs_8 Ls_8 Xs_8 es_8 Ns_8 Zs_8 Os_8 Vs_8
  refine seg9 Xs_8 hx hZ hw hby hown g_ob1 O1 es_8 Ns_8 Zs_8 Os_8 Vs_8 S_ASK_PRIORITY E_w9 ?_
  intro Ts_9 hs_9 Ls_9 Xs_9 es_9 Ns_9 Zs_9 Os_9 Vs_9
  refine seg10 Xs_9 hx hZ hw hby hown g_ob1 O1 es_9 Ns_9 Zs_9 Os_9 Vs_9 S_TAKE_PRIORITY E_w10 ?_
  intro Ts_10 hs_10 Ls_10 Xs_10 es_10 Ns_10 Zs_10 Os_10 Vs_10
  refine seg11 Xs_10 hx hZ hw hby hown g_ob1 O1 es_10 Ns_10 Zs_10 Os_10 Vs_10 S_COMMIT E_w11 ?_
  intro Ts_11 hs_11 Ls_11 Xs_11 es_11 Ns_11 Zs_11 Os_11 Vs_11
  refine seg12 Xs_11 hx hZ hw hby hown g_ob1 O1 es_11 Ns_11 Zs_11 Os_11 Vs_11 S_REJECT E_w12 ?_
  intro Ts_12 hs_12 Ls_12 Xs_12 es_12 Ns_12 Zs_12 Os_12 Vs_12
  refine seg13 Xs_12 hx hZ hw hby hown g_ob1 O1 es_12 Ns_12 Zs_12 Os_12 Vs_12 S_OUTCOME E_w13 ?_
  intro Ts_13 hs_13 Ls_13 Xs_13 es_13 Ns_13 Zs_13 Os_13 Vs_13
  refine seg14 Xs_13 hx hZ hw hby hown g_ob1 O1 es_13 Ns_13 Zs_13 Os_13 Vs_13 S_SETTLE E_w14 ?_
  intro Ts_14 hs_14 Ls_14 Xs_14 es_14 Ns_14 Zs_14 Os_14 Vs_14
  refine seg15 Xs_14 hx hZ hw hby hown g_ob1 O1 es_14 Ns_14 Zs_14 Os_14 Vs_14 S_RELEASE E_w15 ?_
  intro Ts_15 hs_15 Ls_15 Xs_15 es_15 Ns_15 Zs_15 Os_15 Vs_15
  refine seg16 Xs_15 hx hZ hw hby hown g_ob1 O1 es_15 Ns_15 Zs_15 Os_15 Vs_15 S_PARK E_w16 ?_
  intro Ts_16 hs_16 Ls_16 Xs_16 es_16 Ns_16 Zs_16 Os_16 Vs_16
  refine seg17 Xs_16 hx hZ hw hby hown g_ob1 O1 es_16 Ns_16 Zs_16 Os_16 Vs_16 S_HISTORY E_w17 ?_
  intro Ts_17 hs_17 Ls_17 Xs_17 es_17 Ns_17 Zs_17 Os_17 Vs_17
  refine seg18 Xs_17 hx hZ hw hby hown g_ob1 O1 es_17 Ns_17 Zs_17 Os_17 Vs_17 S_RESET E_w18 ?_
  intro Ts_18 hs_18 Ls_18 Xs_18 es_18 Ns_18 Zs_18 Os_18 Vs_18
  refine seg19 Xs_18 hx hZ hw hby hown g_ob1 O1 es_18 Ns_18 Zs_18 Os_18 Vs_18 S_HOLD E_w19 ?_
  intro Ts_19 hs_19 Ls_19 Xs_19 es_19 Ns_19 Zs_19 Os_19 Vs_19
  show Goes p e below _ (sF Ts_19 m 139 #[iv p1, .unset, .unset, .unset] [(.ref ob1)])
  refine Goes.step ?_ (fun _ k => XS.astoreN Xs_19.here hx rfl (hb hby at_139) rfl rfl (l' := #[iv p1, rv ob1, .unset, .unset]) rfl k)
  show Goes p e below _ (sF Ts_19 m 140 #[iv p1, rv ob1, .unset, .unset] [])
  refine Goes.step ?_ (fun _ k => XS.iloadN Xs_19.here hx rfl (hb hby at_140) rfl  k)
  show Goes p e below _ (sF Ts_19 m 141 #[iv p1, rv ob1, .unset, .unset] [(.int p1)])
  refine Goes.step ?_ (fun _ k => Xs_19.ldcI hx hown (mvT hZ (hw _ (List.mem_of_getElem? (i := 44) rfl))) rfl (hb hby at_141) k)
  show Goes p e below _ (sF Ts_19 m 143 #[iv p1, rv ob1, .unset, .unset] [(.int (2147483647 : Int32)), (.int p1)])
  refine Goes.step ?_ (fun _ k => XS.iand Xs_19.here hx rfl (hb hby at_143) rfl k)
  show Goes p e below _ (sF Ts_19 m 144 #[iv p1, rv ob1, .unset, .unset] [(.int (p1 &&& (2147483647 : Int32)))])
  refine Goes.step ?_ (fun _ k => XS.bipush Xs_19.here hx rfl (hb hby at_144) k)
  show Goes p e below _ (sF Ts_19 m 146 #[iv p1, rv ob1, .unset, .unset] [(.int (20 : Int32)), (.int (p1 &&& (2147483647 : Int32)))])
  refine Goes.step ?_ (fun _ k => iremM Xs_19 hx rfl (hb hby at_146) rfl (by decide) k)
  show Goes p e below _ (sF Ts_19 m 147 #[iv p1, rv ob1, .unset, .unset] [(.int ((p1 &&& (2147483647 : Int32)) % (20 : Int32)))])
  refine Goes.step ?_ (fun _ k => XS.istoreN Xs_19.here hx rfl (hb hby at_147) rfl (l' := #[iv p1, rv ob1, iv ((p1 &&& (2147483647 : Int32)) % (20 : Int32)), .unset]) rfl k)
  show Goes p e below _ (sF Ts_19 m 148 #[iv p1, rv ob1, iv ((p1 &&& (2147483647 : Int32)) % (20 : Int32)), .unset] [])
  exact t148 p1 ob1 k1 _ ((p1 &&& (2147483647 : Int32)) % (20 : Int32)) a nt r w13 w14 Xs_19 hx hZ hw hby hlk hret hml hown es_19 Ns_19 Zs_19 Os_19 Vs_19 S_OUTCOME S_SETTLE E_a F_a hge hel hcl hexp
theorem own_mod20 (x : Int32) : (x &&& (2147483647 : Int32)) % (20 : Int32) = 0 ∨ (x &&& (2147483647 : Int32)) % (20 : Int32) = 1 ∨ (x &&& (2147483647 : Int32)) % (20 : Int32) = 2 ∨ (x &&& (2147483647 : Int32)) % (20 : Int32) = 3 ∨ (x &&& (2147483647 : Int32)) % (20 : Int32) = 4 ∨ (x &&& (2147483647 : Int32)) % (20 : Int32) = 5 ∨ (x &&& (2147483647 : Int32)) % (20 : Int32) = 6 ∨ (x &&& (2147483647 : Int32)) % (20 : Int32) = 7 ∨ (x &&& (2147483647 : Int32)) % (20 : Int32) = 8 ∨ (x &&& (2147483647 : Int32)) % (20 : Int32) = 9 ∨ (x &&& (2147483647 : Int32)) % (20 : Int32) = 10 ∨ (x &&& (2147483647 : Int32)) % (20 : Int32) = 11 ∨ (x &&& (2147483647 : Int32)) % (20 : Int32) = 12 ∨ (x &&& (2147483647 : Int32)) % (20 : Int32) = 13 ∨ (x &&& (2147483647 : Int32)) % (20 : Int32) = 14 ∨ (x &&& (2147483647 : Int32)) % (20 : Int32) = 15 ∨ (x &&& (2147483647 : Int32)) % (20 : Int32) = 16 ∨ (x &&& (2147483647 : Int32)) % (20 : Int32) = 17 ∨ (x &&& (2147483647 : Int32)) % (20 : Int32) = 18 ∨ (x &&& (2147483647 : Int32)) % (20 : Int32) = 19 := by
  have h1 := c_mask x 2147483647 31 (by decide) (by decide)
  have h2 := (c_irem (x &&& (2147483647 : Int32)) 20 20 (by decide)).1 (by rw [h1]; omega)
  simp only [← Int32.toInt_inj]
  rw [h2]
  have e0 : (0 : Int32).toInt = 0 := by decide
  have e1 : (1 : Int32).toInt = 1 := by decide
  have e2 : (2 : Int32).toInt = 2 := by decide
  have e3 : (3 : Int32).toInt = 3 := by decide
  have e4 : (4 : Int32).toInt = 4 := by decide
  have e5 : (5 : Int32).toInt = 5 := by decide
  have e6 : (6 : Int32).toInt = 6 := by decide
  have e7 : (7 : Int32).toInt = 7 := by decide
  have e8 : (8 : Int32).toInt = 8 := by decide
  have e9 : (9 : Int32).toInt = 9 := by decide
  have e10 : (10 : Int32).toInt = 10 := by decide
  have e11 : (11 : Int32).toInt = 11 := by decide
  have e12 : (12 : Int32).toInt = 12 := by decide
  have e13 : (13 : Int32).toInt = 13 := by decide
  have e14 : (14 : Int32).toInt = 14 := by decide
  have e15 : (15 : Int32).toInt = 15 := by decide
  have e16 : (16 : Int32).toInt = 16 := by decide
  have e17 : (17 : Int32).toInt = 17 := by decide
  have e18 : (18 : Int32).toInt = 18 := by decide
  have e19 : (19 : Int32).toInt = 19 := by decide
  rw [e0, e1, e2, e3, e4, e5, e6, e7, e8, e9, e10, e11, e12, e13, e14, e15, e16, e17, e18, e19]
  omega
theorem own_eqI {args : Array Value} {first s : State} {o : Option Outcome} {idx : List Nat} {t : Term} {n : Int32} (h : (Jvm.Cond.eq t (.int n)).value args first o s idx = some true) : t.eval args first o idx s = some (.int n) := by
  cases ht : t.eval args first o idx s with
  | none => simp [Cond.value, ht] at h
  | some v => cases v <;> simp [Cond.value, Term.eval, ht] at h ⊢ <;> exact h
theorem own_ne {s : State} {a b : Addr} {C n d : String} {x y : Int32} (h1 : s.fieldOf? a C n d = some (.int x)) (h2 : s.fieldOf? b C n d = some (.int y)) (hne : x ≠ y) : a ≠ b := fun e => by
  subst e; rw [h1] at h2; exact hne (Value.int.inj (Option.some.inj h2))
theorem own_pick {s : State} {w0 w1 w2 w3 w4 w5 w6 w7 w8 w9 w10 w11 w12 w13 w14 w15 w16 w17 w18 w19 : Addr} (EMETHOD : Exa s s.heap w0 "org/serialis/net/Protocol$Request") (EITEMS : Exa s s.heap w1 "org/serialis/net/Protocol$Request") (EVALUE : Exa s s.heap w2 "org/serialis/net/Protocol$Request") (ELOCKING : Exa s s.heap w3 "org/serialis/net/Protocol$Request") (EREAD : Exa s s.heap w4 "org/serialis/net/Protocol$Request") (ERANGE : Exa s s.heap w5 "org/serialis/net/Protocol$Request") (EWRITE : Exa s s.heap w6 "org/serialis/net/Protocol$Request") (ECONTROL : Exa s s.heap w7 "org/serialis/net/Protocol$Request") (ECONTROL_COMMIT : Exa s s.heap w8 "org/serialis/net/Protocol$Request") (EASK_PRIORITY : Exa s s.heap w9 "org/serialis/net/Protocol$Request") (ETAKE_PRIORITY : Exa s s.heap w10 "org/serialis/net/Protocol$Request") (ECOMMIT : Exa s s.heap w11 "org/serialis/net/Protocol$Request") (EREJECT : Exa s s.heap w12 "org/serialis/net/Protocol$Request") (EOUTCOME : Exa s s.heap w13 "org/serialis/net/Protocol$Request") (ESETTLE : Exa s s.heap w14 "org/serialis/net/Protocol$Request") (ERELEASE : Exa s s.heap w15 "org/serialis/net/Protocol$Request") (EPARK : Exa s s.heap w16 "org/serialis/net/Protocol$Request") (EHISTORY : Exa s s.heap w17 "org/serialis/net/Protocol$Request") (ERESET : Exa s s.heap w18 "org/serialis/net/Protocol$Request") (EHOLD : Exa s s.heap w19 "org/serialis/net/Protocol$Request") (FMETHOD : Fld s s.heap w0 "org/serialis/net/Protocol$Request" "namesTransaction" "Z" (.int 0)) (FITEMS : Fld s s.heap w1 "org/serialis/net/Protocol$Request" "namesTransaction" "Z" (.int 0)) (FVALUE : Fld s s.heap w2 "org/serialis/net/Protocol$Request" "namesTransaction" "Z" (.int 0)) (FLOCKING : Fld s s.heap w3 "org/serialis/net/Protocol$Request" "namesTransaction" "Z" (.int 0)) (FREAD : Fld s s.heap w4 "org/serialis/net/Protocol$Request" "namesTransaction" "Z" (.int 1)) (FRANGE : Fld s s.heap w5 "org/serialis/net/Protocol$Request" "namesTransaction" "Z" (.int 1)) (FWRITE : Fld s s.heap w6 "org/serialis/net/Protocol$Request" "namesTransaction" "Z" (.int 1)) (FCONTROL : Fld s s.heap w7 "org/serialis/net/Protocol$Request" "namesTransaction" "Z" (.int 1)) (FCONTROL_COMMIT : Fld s s.heap w8 "org/serialis/net/Protocol$Request" "namesTransaction" "Z" (.int 1)) (FASK_PRIORITY : Fld s s.heap w9 "org/serialis/net/Protocol$Request" "namesTransaction" "Z" (.int 1)) (FTAKE_PRIORITY : Fld s s.heap w10 "org/serialis/net/Protocol$Request" "namesTransaction" "Z" (.int 1)) (FCOMMIT : Fld s s.heap w11 "org/serialis/net/Protocol$Request" "namesTransaction" "Z" (.int 1)) (FREJECT : Fld s s.heap w12 "org/serialis/net/Protocol$Request" "namesTransaction" "Z" (.int 1)) (FOUTCOME : Fld s s.heap w13 "org/serialis/net/Protocol$Request" "namesTransaction" "Z" (.int 1)) (FSETTLE : Fld s s.heap w14 "org/serialis/net/Protocol$Request" "namesTransaction" "Z" (.int 1)) (FRELEASE : Fld s s.heap w15 "org/serialis/net/Protocol$Request" "namesTransaction" "Z" (.int 1)) (FPARK : Fld s s.heap w16 "org/serialis/net/Protocol$Request" "namesTransaction" "Z" (.int 1)) (FHISTORY : Fld s s.heap w17 "org/serialis/net/Protocol$Request" "namesTransaction" "Z" (.int 0)) (FRESET : Fld s s.heap w18 "org/serialis/net/Protocol$Request" "namesTransaction" "Z" (.int 0)) (FHOLD : Fld s s.heap w19 "org/serialis/net/Protocol$Request" "namesTransaction" "Z" (.int 0)) (a4 : w4 ≠ w13) (b4 : w4 ≠ w14) (a5 : w5 ≠ w13) (b5 : w5 ≠ w14) (a6 : w6 ≠ w13) (b6 : w6 ≠ w14) (a7 : w7 ≠ w13) (b7 : w7 ≠ w14) (a8 : w8 ≠ w13) (b8 : w8 ≠ w14) (a9 : w9 ≠ w13) (b9 : w9 ≠ w14) (a10 : w10 ≠ w13) (b10 : w10 ≠ w14) (a11 : w11 ≠ w13) (b11 : w11 ≠ w14) (a12 : w12 ≠ w13) (b12 : w12 ≠ w14) (a15 : w15 ≠ w13) (b15 : w15 ≠ w14) (a16 : w16 ≠ w13) (b16 : w16 ≠ w14) (i0 : Int32) :
    ∃ (a : Addr) (nt r : Int32), Exa s s.heap a "org/serialis/net/Protocol$Request" ∧ Fld s s.heap a "org/serialis/net/Protocol$Request" "namesTransaction" "Z" (.int nt) ∧ (¬ ((i0 &&& (2147483647 : Int32)) % (20 : Int32)) < 0 ∧ ((i0 &&& (2147483647 : Int32)) % (20 : Int32)) < 20) ∧ ([(.ref w0), (.ref w1), (.ref w2), (.ref w3), (.ref w4), (.ref w5), (.ref w6), (.ref w7), (.ref w8), (.ref w9), (.ref w10), (.ref w11), (.ref w12), (.ref w13), (.ref w14), (.ref w15), (.ref w16), (.ref w17), (.ref w18), (.ref w19)] : List Value).getD (((i0 &&& (2147483647 : Int32)) % (20 : Int32))).toNatClampNeg .null = .ref a ∧ clientV nt a w13 w14 = r ∧ expV ((i0 &&& (2147483647 : Int32)) % (20 : Int32)) = r := by
  have h := own_mod20 i0
  generalize ((i0 &&& (2147483647 : Int32)) % (20 : Int32)) = y at h ⊢
  rcases h with rfl | rfl | rfl | rfl | rfl | rfl | rfl | rfl | rfl | rfl | rfl | rfl | rfl | rfl | rfl | rfl | rfl | rfl | rfl | rfl
  · exact ⟨w0, 0, 0, EMETHOD, FMETHOD, by decide, rfl, by simp [clientV], by decide⟩
  · exact ⟨w1, 0, 0, EITEMS, FITEMS, by decide, rfl, by simp [clientV], by decide⟩
  · exact ⟨w2, 0, 0, EVALUE, FVALUE, by decide, rfl, by simp [clientV], by decide⟩
  · exact ⟨w3, 0, 0, ELOCKING, FLOCKING, by decide, rfl, by simp [clientV], by decide⟩
  · exact ⟨w4, 1, 1, EREAD, FREAD, by decide, rfl, by simp [clientV, a4, b4], by decide⟩
  · exact ⟨w5, 1, 1, ERANGE, FRANGE, by decide, rfl, by simp [clientV, a5, b5], by decide⟩
  · exact ⟨w6, 1, 1, EWRITE, FWRITE, by decide, rfl, by simp [clientV, a6, b6], by decide⟩
  · exact ⟨w7, 1, 1, ECONTROL, FCONTROL, by decide, rfl, by simp [clientV, a7, b7], by decide⟩
  · exact ⟨w8, 1, 1, ECONTROL_COMMIT, FCONTROL_COMMIT, by decide, rfl, by simp [clientV, a8, b8], by decide⟩
  · exact ⟨w9, 1, 1, EASK_PRIORITY, FASK_PRIORITY, by decide, rfl, by simp [clientV, a9, b9], by decide⟩
  · exact ⟨w10, 1, 1, ETAKE_PRIORITY, FTAKE_PRIORITY, by decide, rfl, by simp [clientV, a10, b10], by decide⟩
  · exact ⟨w11, 1, 1, ECOMMIT, FCOMMIT, by decide, rfl, by simp [clientV, a11, b11], by decide⟩
  · exact ⟨w12, 1, 1, EREJECT, FREJECT, by decide, rfl, by simp [clientV, a12, b12], by decide⟩
  · exact ⟨w13, 1, 0, EOUTCOME, FOUTCOME, by decide, rfl, by simp [clientV], by decide⟩
  · exact ⟨w14, 1, 0, ESETTLE, FSETTLE, by decide, rfl, by simp [clientV], by decide⟩
  · exact ⟨w15, 1, 1, ERELEASE, FRELEASE, by decide, rfl, by simp [clientV, a15, b15], by decide⟩
  · exact ⟨w16, 1, 1, EPARK, FPARK, by decide, rfl, by simp [clientV, a16, b16], by decide⟩
  · exact ⟨w17, 0, 0, EHISTORY, FHISTORY, by decide, rfl, by simp [clientV], by decide⟩
  · exact ⟨w18, 0, 0, ERESET, FRESET, by decide, rfl, by simp [clientV], by decide⟩
  · exact ⟨w19, 0, 0, EHOLD, FHOLD, by decide, rfl, by simp [clientV], by decide⟩
set_option maxRecDepth 65536 in
set_option maxHeartbeats 40000000 in
theorem comes_1 {Post : Tables → Env → Array Value → State → Outcome → State → Prop} (hpost : ∀ tb e args s v u, (limb_1_1.after args s (.returned v) u = true ∧ limb_1_2.after args s (.returned v) u = true ∧ True) → FrameEnd s (.returned v) u (Jvm.fieldLocs frame_1_writes args s ++ Jvm.arrayLocs frame_1_arrays args s ++ Jvm.staticLocs frame_1_statics s) 16 128 → Post tb e args s (.returned v) u) :
    ArmFor flags0 classFile x code maxLocals ret World_1 tables_1 room_1 Calls_1 rest_1 Pre_1 Post := by
  intro l hfl _ _ p e ha hc hk s m args below hf hA hF happ hP
  obtain ⟨hcalls, hrest, hpre⟩ := hP
  obtain ⟨-, -, -, hnamed, -, -, -, hat⟩ := (Spec.applies_iff hf).mp happ
  obtain ⟨hg, hn⟩ := and_e (Cond.before_iff.mp (show (Jvm.Cond.and given_1 narrow_1).before args s = true from hpre))
  obtain ⟨hcnt, g0⟩ := and_e hg
  have ga0 := g0
  obtain ⟨w0, rfl⟩ : ∃ w0 : Value, args = #[w0] := by
    have hs : args.size = 1 := by simpa [Cond.value, given_1] using hcnt
    obtain ⟨L⟩ := args
    match L, hs with
    | [w0], _ => exact ⟨w0, rfl⟩
  have hw := fun d (hd : d ∈ tables_1) => atoms_spec (ws := Jvm.Cond.code x code maxLocals ret :: tables_1) hat d (List.mem_cons_of_mem _ hd)
  have hfit : Fit s := fun {y c} hc i hi => by
    obtain ⟨ha, rfl⟩ := Array.getElem?_eq_some_iff.mp hc
    have q := List.all_eq_true.mp ((Array.all_eq_true_iff_forall_mem.mp hF) _ (Array.getElem_mem ha)) i (List.mem_range.mpr hi)
    simpa [Array.getElem?_eq_getElem hi] using q
  obtain ⟨i0, ei0⟩ := is_v ga0
  obtain rfl : w0 = (.int i0) := Option.some.inj ei0
  obtain ⟨xMETHOD, hn0⟩ := and_e hn
  obtain ⟨xITEMS, hn1⟩ := and_e hn0
  obtain ⟨xVALUE, hn2⟩ := and_e hn1
  obtain ⟨xLOCKING, hn3⟩ := and_e hn2
  obtain ⟨xREAD, hn4⟩ := and_e hn3
  obtain ⟨xRANGE, hn5⟩ := and_e hn4
  obtain ⟨xWRITE, hn6⟩ := and_e hn5
  obtain ⟨xCONTROL, hn7⟩ := and_e hn6
  obtain ⟨xCONTROL_COMMIT, hn8⟩ := and_e hn7
  obtain ⟨xASK_PRIORITY, hn9⟩ := and_e hn8
  obtain ⟨xTAKE_PRIORITY, hn10⟩ := and_e hn9
  obtain ⟨xCOMMIT, hn11⟩ := and_e hn10
  obtain ⟨xREJECT, hn12⟩ := and_e hn11
  obtain ⟨xOUTCOME, hn13⟩ := and_e hn12
  obtain ⟨xSETTLE, hn14⟩ := and_e hn13
  obtain ⟨xRELEASE, hn15⟩ := and_e hn14
  obtain ⟨xPARK, hn16⟩ := and_e hn15
  obtain ⟨xHISTORY, hn17⟩ := and_e hn16
  obtain ⟨xRESET, hn18⟩ := and_e hn17
  obtain ⟨xHOLD, hn19⟩ := and_e hn18
  obtain ⟨ntMETHOD, hn20⟩ := and_e hn19
  obtain ⟨ntLOCKING, hn21⟩ := and_e hn20
  obtain ⟨ntTAKE_PRIORITY, hn22⟩ := and_e hn21
  obtain ⟨odTAKE_PRIORITY, hn23⟩ := and_e hn22
  obtain ⟨odOUTCOME, hn24⟩ := and_e hn23
  obtain ⟨odSETTLE, hn25⟩ := and_e hn24
  obtain ⟨ntCOMMIT, hn26⟩ := and_e hn25
  obtain ⟨odCOMMIT, hn27⟩ := and_e hn26
  obtain ⟨ntSETTLE, hn28⟩ := and_e hn27
  obtain ⟨ntCONTROL, hn29⟩ := and_e hn28
  obtain ⟨odCONTROL, hn30⟩ := and_e hn29
  obtain ⟨ntVALUE, hn31⟩ := and_e hn30
  obtain ⟨ntCONTROL_COMMIT, hn32⟩ := and_e hn31
  obtain ⟨odCONTROL_COMMIT, hn33⟩ := and_e hn32
  obtain ⟨ntITEMS, hn34⟩ := and_e hn33
  obtain ⟨ntHOLD, hn35⟩ := and_e hn34
  obtain ⟨ntRELEASE, hn36⟩ := and_e hn35
  obtain ⟨odRELEASE, hn37⟩ := and_e hn36
  obtain ⟨ntWRITE, hn38⟩ := and_e hn37
  obtain ⟨odWRITE, hn39⟩ := and_e hn38
  obtain ⟨ntHISTORY, hn40⟩ := and_e hn39
  obtain ⟨ntPARK, hn41⟩ := and_e hn40
  obtain ⟨odPARK, hn42⟩ := and_e hn41
  obtain ⟨ntREJECT, hn43⟩ := and_e hn42
  obtain ⟨odREJECT, hn44⟩ := and_e hn43
  obtain ⟨ntRANGE, hn45⟩ := and_e hn44
  obtain ⟨odRANGE, hn46⟩ := and_e hn45
  obtain ⟨ntREAD, hn47⟩ := and_e hn46
  obtain ⟨odREAD, hn48⟩ := and_e hn47
  obtain ⟨ntASK_PRIORITY, hn49⟩ := and_e hn48
  obtain ⟨odASK_PRIORITY, hn50⟩ := and_e hn49
  obtain ⟨ntOUTCOME, hn51⟩ := and_e hn50
  have ntRESET := hn51
  obtain ⟨w0, vMETHOD⟩ := exa_v xMETHOD
  have SMETHOD := Sta.start vMETHOD (Or.inr ⟨(hw _ (List.mem_of_getElem? (i := 3) rfl)), (hw _ (List.mem_of_getElem? (i := 4) rfl))⟩)
  have EMETHOD := Exa.start vMETHOD xMETHOD
  have FMETHOD := Fld.start ((fld_at vMETHOD).symm.trans (own_eqI ntMETHOD))
  obtain ⟨w1, vITEMS⟩ := exa_v xITEMS
  have SITEMS := Sta.start vITEMS (Or.inr ⟨(hw _ (List.mem_of_getElem? (i := 3) rfl)), (hw _ (List.mem_of_getElem? (i := 7) rfl))⟩)
  have EITEMS := Exa.start vITEMS xITEMS
  have FITEMS := Fld.start ((fld_at vITEMS).symm.trans (own_eqI ntITEMS))
  obtain ⟨w2, vVALUE⟩ := exa_v xVALUE
  have SVALUE := Sta.start vVALUE (Or.inr ⟨(hw _ (List.mem_of_getElem? (i := 3) rfl)), (hw _ (List.mem_of_getElem? (i := 9) rfl))⟩)
  have EVALUE := Exa.start vVALUE xVALUE
  have FVALUE := Fld.start ((fld_at vVALUE).symm.trans (own_eqI ntVALUE))
  obtain ⟨w3, vLOCKING⟩ := exa_v xLOCKING
  have SLOCKING := Sta.start vLOCKING (Or.inr ⟨(hw _ (List.mem_of_getElem? (i := 3) rfl)), (hw _ (List.mem_of_getElem? (i := 11) rfl))⟩)
  have ELOCKING := Exa.start vLOCKING xLOCKING
  have FLOCKING := Fld.start ((fld_at vLOCKING).symm.trans (own_eqI ntLOCKING))
  obtain ⟨w4, vREAD⟩ := exa_v xREAD
  have SREAD := Sta.start vREAD (Or.inr ⟨(hw _ (List.mem_of_getElem? (i := 3) rfl)), (hw _ (List.mem_of_getElem? (i := 13) rfl))⟩)
  have EREAD := Exa.start vREAD xREAD
  have FREAD := Fld.start ((fld_at vREAD).symm.trans (own_eqI ntREAD))
  have oREAD := (fld_at vREAD).symm.trans (own_eqI odREAD)
  obtain ⟨w5, vRANGE⟩ := exa_v xRANGE
  have SRANGE := Sta.start vRANGE (Or.inr ⟨(hw _ (List.mem_of_getElem? (i := 3) rfl)), (hw _ (List.mem_of_getElem? (i := 15) rfl))⟩)
  have ERANGE := Exa.start vRANGE xRANGE
  have FRANGE := Fld.start ((fld_at vRANGE).symm.trans (own_eqI ntRANGE))
  have oRANGE := (fld_at vRANGE).symm.trans (own_eqI odRANGE)
  obtain ⟨w6, vWRITE⟩ := exa_v xWRITE
  have SWRITE := Sta.start vWRITE (Or.inr ⟨(hw _ (List.mem_of_getElem? (i := 3) rfl)), (hw _ (List.mem_of_getElem? (i := 17) rfl))⟩)
  have EWRITE := Exa.start vWRITE xWRITE
  have FWRITE := Fld.start ((fld_at vWRITE).symm.trans (own_eqI ntWRITE))
  have oWRITE := (fld_at vWRITE).symm.trans (own_eqI odWRITE)
  obtain ⟨w7, vCONTROL⟩ := exa_v xCONTROL
  have SCONTROL := Sta.start vCONTROL (Or.inr ⟨(hw _ (List.mem_of_getElem? (i := 3) rfl)), (hw _ (List.mem_of_getElem? (i := 19) rfl))⟩)
  have ECONTROL := Exa.start vCONTROL xCONTROL
  have FCONTROL := Fld.start ((fld_at vCONTROL).symm.trans (own_eqI ntCONTROL))
  have oCONTROL := (fld_at vCONTROL).symm.trans (own_eqI odCONTROL)
  obtain ⟨w8, vCONTROL_COMMIT⟩ := exa_v xCONTROL_COMMIT
  have SCONTROL_COMMIT := Sta.start vCONTROL_COMMIT (Or.inr ⟨(hw _ (List.mem_of_getElem? (i := 3) rfl)), (hw _ (List.mem_of_getElem? (i := 21) rfl))⟩)
  have ECONTROL_COMMIT := Exa.start vCONTROL_COMMIT xCONTROL_COMMIT
  have FCONTROL_COMMIT := Fld.start ((fld_at vCONTROL_COMMIT).symm.trans (own_eqI ntCONTROL_COMMIT))
  have oCONTROL_COMMIT := (fld_at vCONTROL_COMMIT).symm.trans (own_eqI odCONTROL_COMMIT)
  obtain ⟨w9, vASK_PRIORITY⟩ := exa_v xASK_PRIORITY
  have SASK_PRIORITY := Sta.start vASK_PRIORITY (Or.inr ⟨(hw _ (List.mem_of_getElem? (i := 3) rfl)), (hw _ (List.mem_of_getElem? (i := 23) rfl))⟩)
  have EASK_PRIORITY := Exa.start vASK_PRIORITY xASK_PRIORITY
  have FASK_PRIORITY := Fld.start ((fld_at vASK_PRIORITY).symm.trans (own_eqI ntASK_PRIORITY))
  have oASK_PRIORITY := (fld_at vASK_PRIORITY).symm.trans (own_eqI odASK_PRIORITY)
  obtain ⟨w10, vTAKE_PRIORITY⟩ := exa_v xTAKE_PRIORITY
  have STAKE_PRIORITY := Sta.start vTAKE_PRIORITY (Or.inr ⟨(hw _ (List.mem_of_getElem? (i := 3) rfl)), (hw _ (List.mem_of_getElem? (i := 25) rfl))⟩)
  have ETAKE_PRIORITY := Exa.start vTAKE_PRIORITY xTAKE_PRIORITY
  have FTAKE_PRIORITY := Fld.start ((fld_at vTAKE_PRIORITY).symm.trans (own_eqI ntTAKE_PRIORITY))
  have oTAKE_PRIORITY := (fld_at vTAKE_PRIORITY).symm.trans (own_eqI odTAKE_PRIORITY)
  obtain ⟨w11, vCOMMIT⟩ := exa_v xCOMMIT
  have SCOMMIT := Sta.start vCOMMIT (Or.inr ⟨(hw _ (List.mem_of_getElem? (i := 3) rfl)), (hw _ (List.mem_of_getElem? (i := 27) rfl))⟩)
  have ECOMMIT := Exa.start vCOMMIT xCOMMIT
  have FCOMMIT := Fld.start ((fld_at vCOMMIT).symm.trans (own_eqI ntCOMMIT))
  have oCOMMIT := (fld_at vCOMMIT).symm.trans (own_eqI odCOMMIT)
  obtain ⟨w12, vREJECT⟩ := exa_v xREJECT
  have SREJECT := Sta.start vREJECT (Or.inr ⟨(hw _ (List.mem_of_getElem? (i := 3) rfl)), (hw _ (List.mem_of_getElem? (i := 29) rfl))⟩)
  have EREJECT := Exa.start vREJECT xREJECT
  have FREJECT := Fld.start ((fld_at vREJECT).symm.trans (own_eqI ntREJECT))
  have oREJECT := (fld_at vREJECT).symm.trans (own_eqI odREJECT)
  obtain ⟨w13, vOUTCOME⟩ := exa_v xOUTCOME
  have SOUTCOME := Sta.start vOUTCOME (Or.inr ⟨(hw _ (List.mem_of_getElem? (i := 3) rfl)), (hw _ (List.mem_of_getElem? (i := 31) rfl))⟩)
  have EOUTCOME := Exa.start vOUTCOME xOUTCOME
  have FOUTCOME := Fld.start ((fld_at vOUTCOME).symm.trans (own_eqI ntOUTCOME))
  have oOUTCOME := (fld_at vOUTCOME).symm.trans (own_eqI odOUTCOME)
  obtain ⟨w14, vSETTLE⟩ := exa_v xSETTLE
  have SSETTLE := Sta.start vSETTLE (Or.inr ⟨(hw _ (List.mem_of_getElem? (i := 3) rfl)), (hw _ (List.mem_of_getElem? (i := 33) rfl))⟩)
  have ESETTLE := Exa.start vSETTLE xSETTLE
  have FSETTLE := Fld.start ((fld_at vSETTLE).symm.trans (own_eqI ntSETTLE))
  have oSETTLE := (fld_at vSETTLE).symm.trans (own_eqI odSETTLE)
  obtain ⟨w15, vRELEASE⟩ := exa_v xRELEASE
  have SRELEASE := Sta.start vRELEASE (Or.inr ⟨(hw _ (List.mem_of_getElem? (i := 3) rfl)), (hw _ (List.mem_of_getElem? (i := 35) rfl))⟩)
  have ERELEASE := Exa.start vRELEASE xRELEASE
  have FRELEASE := Fld.start ((fld_at vRELEASE).symm.trans (own_eqI ntRELEASE))
  have oRELEASE := (fld_at vRELEASE).symm.trans (own_eqI odRELEASE)
  obtain ⟨w16, vPARK⟩ := exa_v xPARK
  have SPARK := Sta.start vPARK (Or.inr ⟨(hw _ (List.mem_of_getElem? (i := 3) rfl)), (hw _ (List.mem_of_getElem? (i := 37) rfl))⟩)
  have EPARK := Exa.start vPARK xPARK
  have FPARK := Fld.start ((fld_at vPARK).symm.trans (own_eqI ntPARK))
  have oPARK := (fld_at vPARK).symm.trans (own_eqI odPARK)
  obtain ⟨w17, vHISTORY⟩ := exa_v xHISTORY
  have SHISTORY := Sta.start vHISTORY (Or.inr ⟨(hw _ (List.mem_of_getElem? (i := 3) rfl)), (hw _ (List.mem_of_getElem? (i := 39) rfl))⟩)
  have EHISTORY := Exa.start vHISTORY xHISTORY
  have FHISTORY := Fld.start ((fld_at vHISTORY).symm.trans (own_eqI ntHISTORY))
  obtain ⟨w18, vRESET⟩ := exa_v xRESET
  have SRESET := Sta.start vRESET (Or.inr ⟨(hw _ (List.mem_of_getElem? (i := 3) rfl)), (hw _ (List.mem_of_getElem? (i := 41) rfl))⟩)
  have ERESET := Exa.start vRESET xRESET
  have FRESET := Fld.start ((fld_at vRESET).symm.trans (own_eqI ntRESET))
  obtain ⟨w19, vHOLD⟩ := exa_v xHOLD
  have SHOLD := Sta.start vHOLD (Or.inr ⟨(hw _ (List.mem_of_getElem? (i := 3) rfl)), (hw _ (List.mem_of_getElem? (i := 43) rfl))⟩)
  have EHOLD := Exa.start vHOLD xHOLD
  have FHOLD := Fld.start ((fld_at vHOLD).symm.trans (own_eqI ntHOLD))
  obtain ⟨a, nt, r, Ea, Fa, hge, hel, hcl, hexp⟩ := own_pick EMETHOD EITEMS EVALUE ELOCKING EREAD ERANGE EWRITE ECONTROL ECONTROL_COMMIT EASK_PRIORITY ETAKE_PRIORITY ECOMMIT EREJECT EOUTCOME ESETTLE ERELEASE EPARK EHISTORY ERESET EHOLD FMETHOD FITEMS FVALUE FLOCKING FREAD FRANGE FWRITE FCONTROL FCONTROL_COMMIT FASK_PRIORITY FTAKE_PRIORITY FCOMMIT FREJECT FOUTCOME FSETTLE FRELEASE FPARK FHISTORY FRESET FHOLD (own_ne oREAD oOUTCOME (by decide)) (own_ne oREAD oSETTLE (by decide)) (own_ne oRANGE oOUTCOME (by decide)) (own_ne oRANGE oSETTLE (by decide)) (own_ne oWRITE oOUTCOME (by decide)) (own_ne oWRITE oSETTLE (by decide)) (own_ne oCONTROL oOUTCOME (by decide)) (own_ne oCONTROL oSETTLE (by decide)) (own_ne oCONTROL_COMMIT oOUTCOME (by decide)) (own_ne oCONTROL_COMMIT oSETTLE (by decide)) (own_ne oASK_PRIORITY oOUTCOME (by decide)) (own_ne oASK_PRIORITY oSETTLE (by decide)) (own_ne oTAKE_PRIORITY oOUTCOME (by decide)) (own_ne oTAKE_PRIORITY oSETTLE (by decide)) (own_ne oCOMMIT oOUTCOME (by decide)) (own_ne oCOMMIT oSETTLE (by decide)) (own_ne oREJECT oOUTCOME (by decide)) (own_ne oREJECT oSETTLE (by decide)) (own_ne oRELEASE oOUTCOME (by decide)) (own_ne oRELEASE oSETTLE (by decide)) (own_ne oPARK oOUTCOME (by decide)) (own_ne oPARK oSETTLE (by decide)) i0
  obtain ⟨n, o, h1, h2, h3, _, L, rfl, ⟨rfl, N⟩, hq⟩ := rm0 l s _ hw tables_1 i0 w0 w1 w2 w3 w4 w5 w6 w7 w8 w9 w10 w11 w12 w13 w14 w15 w16 w17 w18 w19 a nt r s.heap s.heap.size (Nat.le_refl _) (Old.start s) SMETHOD SITEMS SVALUE SLOCKING SREAD SRANGE SWRITE SCONTROL SCONTROL_COMMIT SASK_PRIORITY STAKE_PRIORITY SCOMMIT SREJECT SOUTCOME SSETTLE SRELEASE SPARK SHISTORY SRESET SHOLD EMETHOD EITEMS EVALUE ELOCKING EREAD ERANGE EWRITE ECONTROL ECONTROL_COMMIT EASK_PRIORITY ETAKE_PRIORITY ECOMMIT EREJECT EOUTCOME ESETTLE ERELEASE EPARK EHISTORY ERESET EHOLD Ea Fa hge hel hcl hexp p e ha hc hk s m _ below hf ((Spec.applies_iff_loose hf).mp happ).1 ⟨rfl, State.Warmed39.refl s, rfl⟩ trivial
  refine ⟨n, _, h1, h2, h3, hpost _ _ _ _ _ _ ⟨Cond.after_iff.mpr rfl, Cond.after_iff.mpr (eq_i res_at (Term.int_eval (1)) rfl), trivial⟩ ⟨hq.1, hq.2.1, (hq.2.2.sift fun y hy => Or.inr (N y hy)).mono (by decide) (by decide)⟩⟩
theorem main_1_1 : Claimed_1_1 := comes_1 fun _ _ _ _ _ _ h hF => ⟨h.1, hF⟩
theorem main_1_2 : Claimed_1_2 := comes_1 fun _ _ _ _ _ _ h hF => ⟨h.2.1, hF⟩
end Jvm.Pilot.@@N@@
namespace Jvm.Pilot.@@N@@
open Jvm Jvm.ClassFile Sem Op Lib Jvm.Free Jvm.Stand Jvm.Pilot.@@N@@.Jvm.D
/-! MADE BY PROGRAM (witnessworld.py) out of the Statement's table words and the real class files: 13 classes; the members and pool entries that the words name. The judged class is class 1, her method 1. -/
namespace start1
open Jvm.ClassFile
def u (s : String) : CpInfo := .utf8 (stringToUtf16 s)
/-- a pool by its gaps: so many unusable entries, then the entry; so many at the end -/
def gap : Nat → List CpInfo → List CpInfo
  | 0, r => r
  | n + 1, r => .unusable :: gap n r
def poolList (es : List (Nat × CpInfo)) (last : Nat) : List CpInfo := es.foldr (fun e r => gap e.1 (e.2 :: r)) (gap last [])
def pool (es : List (Nat × CpInfo)) (last : Nat) : Array CpInfo := ⟨poolList es last⟩
def fileOf (pool : Array CpInfo) (this : Nat) (attrs : Array Attribute := #[]) (ms : Array MethodInfo := #[]) (fl : Nat := 33) (sup : Nat := 0) (ifs : Array Nat := #[]) (fds : Array FieldInfo := #[]) : ClassFile where
  minorVersion := 0
  majorVersion := 65
  constantPool := pool
  accessFlags := fl
  thisClass := this
  superClass := sup
  interfaces := ifs
  fields := fds
  methods := ms
  attributes := attrs
def plain (name : String) (sup : Option ClassId) : Class where
  name := name
  kind := .ordinary
  loader := none
  accessFlags := 33
  super := sup
  interfaces := #[]
  cf := none
  fields := #[]
  methods := #[]
  instanceTypes := #[]
  staticTypes := #[]
  resolved := #[]
  callSites := []
  init := .initialized
  statics := none
  mirror := none

def pool0 : Array CpInfo := pool [(5, u "<init>"), (0, u "()V"), (1, .class_ 10), (1, u "java/lang/Object")] 113

def k0m0 : Method := { name := "<init>", desc := "()V", sig := { parameters := [], returnType := none }, accessFlags := 1, code := none }
/-- java/lang/Object -/
def k0 : Class := { plain "java/lang/Object" none with
  accessFlags := 33
  interfaces := #[]
  cf := some (fileOf pool0 8 #[] #[{ accessFlags := 1, nameIndex := 5, descriptorIndex := 6, attributes := #[] }] 33 0 #[] #[])
  fields := #[]
  methods := #[k0m0]
  instanceTypes := #[]
  staticTypes := #[]
  resolved := Array.replicate 124 none
  statics := none }

def pool1 : Array CpInfo := pool [(2, .class_ 4), (1, u "java/lang/Object"), (0, u "<init>"), (0, u "()V"), (0, .class_ 8), (0, u "org/serialis/net/Protocol$Request"), (0, .fieldref 7 10), (0, .nameAndType 11 12), (0, u "METHOD"), (0, u "Lorg/serialis/net/Protocol$Request;"), (0, .fieldref 7 14), (0, .nameAndType 15 12), (0, u "ITEMS"), (0, .fieldref 7 17), (0, .nameAndType 18 12), (0, u "VALUE"), (0, .fieldref 7 20), (0, .nameAndType 21 12), (0, u "LOCKING"), (0, .fieldref 7 23), (0, .nameAndType 24 12), (0, u "READ"), (0, .fieldref 7 26), (0, .nameAndType 27 12), (0, u "RANGE"), (0, .fieldref 7 29), (0, .nameAndType 30 12), (0, u "WRITE"), (0, .fieldref 7 32), (0, .nameAndType 33 12), (0, u "CONTROL"), (0, .fieldref 7 35), (0, .nameAndType 36 12), (0, u "CONTROL_COMMIT"), (0, .fieldref 7 38), (0, .nameAndType 39 12), (0, u "ASK_PRIORITY"), (0, .fieldref 7 41), (0, .nameAndType 42 12), (0, u "TAKE_PRIORITY"), (0, .fieldref 7 44), (0, .nameAndType 45 12), (0, u "COMMIT"), (0, .fieldref 7 47), (0, .nameAndType 48 12), (0, u "REJECT"), (0, .fieldref 7 50), (0, .nameAndType 51 12), (0, u "OUTCOME"), (0, .fieldref 7 53), (0, .nameAndType 54 12), (0, u "SETTLE"), (0, .fieldref 7 56), (0, .nameAndType 57 12), (0, u "RELEASE"), (0, .fieldref 7 59), (0, .nameAndType 60 12), (0, u "PARK"), (0, .fieldref 7 62), (0, .nameAndType 63 12), (0, u "HISTORY"), (0, .fieldref 7 65), (0, .nameAndType 66 12), (0, u "RESET"), (0, .fieldref 7 68), (0, .nameAndType 69 12), (0, u "HOLD"), (0, .integer 2147483647), (0, .methodref 7 72), (0, .nameAndType 73 74), (0, u "isByClient"), (0, u "()Z"), (0, .class_ 76), (0, u "org/serialis/net/RequestIsByClientPinLaw"), (2, u "law"), (0, u "(I)Z")] 9

def k1m0 : Method := { name := "<init>", desc := "()V", sig := { parameters := [], returnType := none }, accessFlags := 2, code := none }
def k1c1 : Code := { maxStack := 4, maxLocals := 4, code := code, exceptionTable := #[], attributes := #[] }
def k1m1 : Method := { name := "law", desc := "(I)Z", sig := { parameters := [.int], returnType := some .boolean }, accessFlags := 9, code := some k1c1 }
/-- org/serialis/net/RequestIsByClientPinLaw -/
def k1 : Class := { plain "org/serialis/net/RequestIsByClientPinLaw" (some 0) with
  accessFlags := 49
  interfaces := #[]
  cf := some (fileOf pool1 75 #[] #[{ accessFlags := 2, nameIndex := 5, descriptorIndex := 6, attributes := #[] }, { accessFlags := 9, nameIndex := 79, descriptorIndex := 80, attributes := #[] }] 49 2 #[] #[])
  fields := #[]
  methods := #[k1m0, k1m1]
  instanceTypes := #[]
  staticTypes := #[]
  resolved := Array.replicate 90 none
  statics := none }

def pool2 : Array CpInfo := pool [(1, .class_ 2), (0, u "java/lang/constant/Constable"), (0, .class_ 4), (0, u "java/lang/Object")] 6

/-- java/lang/constant/Constable -/
def k2 : Class := { plain "java/lang/constant/Constable" (some 0) with
  accessFlags := 1537
  interfaces := #[]
  cf := some (fileOf pool2 1 #[] #[] 1537 3 #[] #[])
  fields := #[]
  methods := #[]
  instanceTypes := #[]
  staticTypes := #[]
  resolved := Array.replicate 11 none
  statics := none }

def pool3 : Array CpInfo := pool [(1, .class_ 2), (0, u "java/lang/Comparable"), (0, .class_ 4), (0, u "java/lang/Object")] 7

/-- java/lang/Comparable -/
def k3 : Class := { plain "java/lang/Comparable" (some 0) with
  accessFlags := 1537
  interfaces := #[]
  cf := some (fileOf pool3 1 #[] #[] 1537 3 #[] #[])
  fields := #[]
  methods := #[]
  instanceTypes := #[]
  staticTypes := #[]
  resolved := Array.replicate 12 none
  statics := none }

def pool4 : Array CpInfo := pool [(1, .class_ 2), (0, u "java/io/Serializable"), (0, .class_ 4), (0, u "java/lang/Object")] 2

/-- java/io/Serializable -/
def k4 : Class := { plain "java/io/Serializable" (some 0) with
  accessFlags := 1537
  interfaces := #[]
  cf := some (fileOf pool4 1 #[] #[] 1537 3 #[] #[])
  fields := #[]
  methods := #[]
  instanceTypes := #[]
  staticTypes := #[]
  resolved := Array.replicate 7 none
  statics := none }

def pool5 : Array CpInfo := pool [(2, .class_ 4), (1, u "java/lang/Enum"), (0, u "name"), (0, u "Ljava/lang/String;"), (2, u "ordinal"), (0, u "I"), (1, .class_ 14), (1, u "java/lang/Object"), (4, u "hash"), (86, .class_ 108), (1, u "java/lang/Enum$EnumDesc"), (2, .class_ 112), (0, u "java/lang/constant/Constable"), (0, .class_ 114), (0, u "java/lang/Comparable"), (0, .class_ 116), (0, u "java/io/Serializable")] 87

/-- java/lang/Enum -/
def k5 : Class := { plain "java/lang/Enum" (some 0) with
  accessFlags := 1057
  interfaces := #[2, 3, 4]
  cf := some (fileOf pool5 2 #[.nestMembers #[106]] #[] 1057 12 #[111, 113, 115] #[{ accessFlags := 18, nameIndex := 5, descriptorIndex := 6, attributes := #[] }, { accessFlags := 18, nameIndex := 9, descriptorIndex := 10, attributes := #[] }, { accessFlags := 2, nameIndex := 19, descriptorIndex := 10, attributes := #[] }])
  fields := #[{ name := "name", type := (.object "java/lang/String"), accessFlags := 18, slot := 0, constantValue := 0 }, { name := "ordinal", type := .int, accessFlags := 18, slot := 1, constantValue := 0 }, { name := "hash", type := .int, accessFlags := 2, slot := 2, constantValue := 0 }]
  methods := #[]
  instanceTypes := #[(.object "java/lang/String"), .int, .int]
  staticTypes := #[]
  resolved := Array.replicate 204 none
  statics := none }

def pool6 : Array CpInfo := pool [(1, .class_ 2), (0, u "org/serialis/net/Protocol$Request"), (2, u "METHOD"), (0, u "Lorg/serialis/net/Protocol$Request;"), (2, u "ITEMS"), (2, u "VALUE"), (2, u "LOCKING"), (2, u "READ"), (2, u "RANGE"), (2, u "WRITE"), (2, u "CONTROL"), (2, u "CONTROL_COMMIT"), (2, u "ASK_PRIORITY"), (2, u "TAKE_PRIORITY"), (2, u "COMMIT"), (2, u "REJECT"), (0, .fieldref 1 44), (0, .nameAndType 45 6), (0, u "OUTCOME"), (0, .fieldref 1 47), (0, .nameAndType 48 6), (0, u "SETTLE"), (2, u "RELEASE"), (2, u "PARK"), (2, u "HISTORY"), (2, u "RESET"), (2, u "HOLD"), (2, u "$VALUES"), (0, u "[Lorg/serialis/net/Protocol$Request;"), (6, .class_ 76), (1, u "java/lang/Enum"), (8, u "word"), (0, u "Ljava/lang/String;"), (2, u "operands"), (5, u "()Z"), (8, u "operandWords"), (0, u "I"), (8, u "repeats"), (0, u "Z"), (5, .fieldref 1 122), (0, .nameAndType 123 115), (0, u "namesTransaction"), (6, u "REQUESTS"), (114, u "isByClient"), (9, .class_ 256), (0, u "org/serialis/net/Protocol")] 16

def k6c0 : Code := { maxStack := 2, maxLocals := 1, code := prog_76_method_6_code, exceptionTable := #[], attributes := #[] }
def k6m0 : Method := { name := "isByClient", desc := "()Z", sig := { parameters := [], returnType := some .boolean }, accessFlags := 0, code := some k6c0 }
/-- org/serialis/net/Protocol$Request -/
def k6 : Class := { plain "org/serialis/net/Protocol$Request" (some 5) with
  accessFlags := 16432
  interfaces := #[]
  cf := some (fileOf pool6 1 #[.nestHost 255] #[{ accessFlags := 0, nameIndex := 245, descriptorIndex := 95, attributes := #[] }] 16432 74 #[] #[{ accessFlags := 16409, nameIndex := 5, descriptorIndex := 6, attributes := #[] }, { accessFlags := 16409, nameIndex := 9, descriptorIndex := 6, attributes := #[] }, { accessFlags := 16409, nameIndex := 12, descriptorIndex := 6, attributes := #[] }, { accessFlags := 16409, nameIndex := 15, descriptorIndex := 6, attributes := #[] }, { accessFlags := 16409, nameIndex := 18, descriptorIndex := 6, attributes := #[] }, { accessFlags := 16409, nameIndex := 21, descriptorIndex := 6, attributes := #[] }, { accessFlags := 16409, nameIndex := 24, descriptorIndex := 6, attributes := #[] }, { accessFlags := 16409, nameIndex := 27, descriptorIndex := 6, attributes := #[] }, { accessFlags := 16409, nameIndex := 30, descriptorIndex := 6, attributes := #[] }, { accessFlags := 16409, nameIndex := 33, descriptorIndex := 6, attributes := #[] }, { accessFlags := 16409, nameIndex := 36, descriptorIndex := 6, attributes := #[] }, { accessFlags := 16409, nameIndex := 39, descriptorIndex := 6, attributes := #[] }, { accessFlags := 16409, nameIndex := 42, descriptorIndex := 6, attributes := #[] }, { accessFlags := 16409, nameIndex := 45, descriptorIndex := 6, attributes := #[] }, { accessFlags := 16409, nameIndex := 48, descriptorIndex := 6, attributes := #[] }, { accessFlags := 16409, nameIndex := 51, descriptorIndex := 6, attributes := #[] }, { accessFlags := 16409, nameIndex := 54, descriptorIndex := 6, attributes := #[] }, { accessFlags := 16409, nameIndex := 57, descriptorIndex := 6, attributes := #[] }, { accessFlags := 16409, nameIndex := 60, descriptorIndex := 6, attributes := #[] }, { accessFlags := 16409, nameIndex := 63, descriptorIndex := 6, attributes := #[] }, { accessFlags := 26, nameIndex := 130, descriptorIndex := 67, attributes := #[] }, { accessFlags := 18, nameIndex := 85, descriptorIndex := 86, attributes := #[] }, { accessFlags := 18, nameIndex := 89, descriptorIndex := 86, attributes := #[] }, { accessFlags := 18, nameIndex := 104, descriptorIndex := 105, attributes := #[] }, { accessFlags := 18, nameIndex := 114, descriptorIndex := 115, attributes := #[] }, { accessFlags := 18, nameIndex := 123, descriptorIndex := 115, attributes := #[] }, { accessFlags := 4122, nameIndex := 66, descriptorIndex := 67, attributes := #[] }])
  fields := #[{ name := "METHOD", type := (.object "org/serialis/net/Protocol$Request"), accessFlags := 16409, slot := 0, constantValue := 0 }, { name := "ITEMS", type := (.object "org/serialis/net/Protocol$Request"), accessFlags := 16409, slot := 1, constantValue := 0 }, { name := "VALUE", type := (.object "org/serialis/net/Protocol$Request"), accessFlags := 16409, slot := 2, constantValue := 0 }, { name := "LOCKING", type := (.object "org/serialis/net/Protocol$Request"), accessFlags := 16409, slot := 3, constantValue := 0 }, { name := "READ", type := (.object "org/serialis/net/Protocol$Request"), accessFlags := 16409, slot := 4, constantValue := 0 }, { name := "RANGE", type := (.object "org/serialis/net/Protocol$Request"), accessFlags := 16409, slot := 5, constantValue := 0 }, { name := "WRITE", type := (.object "org/serialis/net/Protocol$Request"), accessFlags := 16409, slot := 6, constantValue := 0 }, { name := "CONTROL", type := (.object "org/serialis/net/Protocol$Request"), accessFlags := 16409, slot := 7, constantValue := 0 }, { name := "CONTROL_COMMIT", type := (.object "org/serialis/net/Protocol$Request"), accessFlags := 16409, slot := 8, constantValue := 0 }, { name := "ASK_PRIORITY", type := (.object "org/serialis/net/Protocol$Request"), accessFlags := 16409, slot := 9, constantValue := 0 }, { name := "TAKE_PRIORITY", type := (.object "org/serialis/net/Protocol$Request"), accessFlags := 16409, slot := 10, constantValue := 0 }, { name := "COMMIT", type := (.object "org/serialis/net/Protocol$Request"), accessFlags := 16409, slot := 11, constantValue := 0 }, { name := "REJECT", type := (.object "org/serialis/net/Protocol$Request"), accessFlags := 16409, slot := 12, constantValue := 0 }, { name := "OUTCOME", type := (.object "org/serialis/net/Protocol$Request"), accessFlags := 16409, slot := 13, constantValue := 0 }, { name := "SETTLE", type := (.object "org/serialis/net/Protocol$Request"), accessFlags := 16409, slot := 14, constantValue := 0 }, { name := "RELEASE", type := (.object "org/serialis/net/Protocol$Request"), accessFlags := 16409, slot := 15, constantValue := 0 }, { name := "PARK", type := (.object "org/serialis/net/Protocol$Request"), accessFlags := 16409, slot := 16, constantValue := 0 }, { name := "HISTORY", type := (.object "org/serialis/net/Protocol$Request"), accessFlags := 16409, slot := 17, constantValue := 0 }, { name := "RESET", type := (.object "org/serialis/net/Protocol$Request"), accessFlags := 16409, slot := 18, constantValue := 0 }, { name := "HOLD", type := (.object "org/serialis/net/Protocol$Request"), accessFlags := 16409, slot := 19, constantValue := 0 }, { name := "REQUESTS", type := (.array (.object "org/serialis/net/Protocol$Request")), accessFlags := 26, slot := 20, constantValue := 0 }, { name := "word", type := (.object "java/lang/String"), accessFlags := 18, slot := 3, constantValue := 0 }, { name := "operands", type := (.object "java/lang/String"), accessFlags := 18, slot := 4, constantValue := 0 }, { name := "operandWords", type := .int, accessFlags := 18, slot := 5, constantValue := 0 }, { name := "repeats", type := .boolean, accessFlags := 18, slot := 6, constantValue := 0 }, { name := "namesTransaction", type := .boolean, accessFlags := 18, slot := 7, constantValue := 0 }, { name := "$VALUES", type := (.array (.object "org/serialis/net/Protocol$Request")), accessFlags := 4122, slot := 21, constantValue := 0 }]
  methods := #[k6m0]
  instanceTypes := #[(.object "java/lang/String"), .int, .int, (.object "java/lang/String"), (.object "java/lang/String"), .int, .boolean, .boolean]
  staticTypes := #[(.object "org/serialis/net/Protocol$Request"), (.object "org/serialis/net/Protocol$Request"), (.object "org/serialis/net/Protocol$Request"), (.object "org/serialis/net/Protocol$Request"), (.object "org/serialis/net/Protocol$Request"), (.object "org/serialis/net/Protocol$Request"), (.object "org/serialis/net/Protocol$Request"), (.object "org/serialis/net/Protocol$Request"), (.object "org/serialis/net/Protocol$Request"), (.object "org/serialis/net/Protocol$Request"), (.object "org/serialis/net/Protocol$Request"), (.object "org/serialis/net/Protocol$Request"), (.object "org/serialis/net/Protocol$Request"), (.object "org/serialis/net/Protocol$Request"), (.object "org/serialis/net/Protocol$Request"), (.object "org/serialis/net/Protocol$Request"), (.object "org/serialis/net/Protocol$Request"), (.object "org/serialis/net/Protocol$Request"), (.object "org/serialis/net/Protocol$Request"), (.object "org/serialis/net/Protocol$Request"), (.array (.object "org/serialis/net/Protocol$Request")), (.array (.object "org/serialis/net/Protocol$Request"))]
  resolved := Array.replicate 273 none
  statics := some 0 }

def pool7 : Array CpInfo := pool [(1, u "java/lang/Cloneable"), (0, .class_ 1), (0, u "java/lang/Object"), (0, .class_ 3)] 3

/-- java/lang/Cloneable -/
def k7 : Class := { plain "java/lang/Cloneable" (some 0) with
  accessFlags := 1537
  interfaces := #[]
  cf := some (fileOf pool7 2 #[] #[] 1537 4 #[] #[])
  fields := #[]
  methods := #[]
  instanceTypes := #[]
  staticTypes := #[]
  resolved := Array.replicate 8 none
  statics := none }

/-- the primitive byte -/
def k8 : Class := { plain "byte" none with kind := .primitive 'B', accessFlags := 0x411 }
/-- [B -/
def k9 : Class := { plain "[B" (some 0) with kind := .array 8 .byte, interfaces := #[7, 4], accessFlags := 1041 }

/-- the primitive int -/
def k10 : Class := { plain "int" none with kind := .primitive 'I', accessFlags := 0x411 }
/-- [I -/
def k11 : Class := { plain "[I" (some 0) with kind := .array 10 .int, interfaces := #[7, 4], accessFlags := 1041 }

/-- [Lorg/serialis/net/Protocol$Request; -/
def k12 : Class := { plain "[Lorg/serialis/net/Protocol$Request;" (some 0) with kind := .array 6 (.object "org/serialis/net/Protocol$Request"), interfaces := #[7, 4], accessFlags := 1041 }

def heap : Heap := #[{ cls := 6, slots := #[.ref 1, .ref 2, .ref 3, .ref 4, .ref 5, .ref 6, .ref 7, .ref 8, .ref 9, .ref 10, .ref 11, .ref 12, .ref 13, .ref 14, .ref 15, .ref 16, .ref 17, .ref 18, .ref 19, .ref 20, .null, .null], vm := .statics 6 },
  { cls := 6, slots := #[.null, .int 0, .int 0, .null, .null, .int 0, .int 0, .int 0], vm := .none },
  { cls := 6, slots := #[.null, .int 1, .int 0, .null, .null, .int 0, .int 0, .int 0], vm := .none },
  { cls := 6, slots := #[.null, .int 2, .int 0, .null, .null, .int 0, .int 0, .int 0], vm := .none },
  { cls := 6, slots := #[.null, .int 3, .int 0, .null, .null, .int 0, .int 0, .int 0], vm := .none },
  { cls := 6, slots := #[.null, .int 4, .int 0, .null, .null, .int 0, .int 0, .int 1], vm := .none },
  { cls := 6, slots := #[.null, .int 5, .int 0, .null, .null, .int 0, .int 0, .int 1], vm := .none },
  { cls := 6, slots := #[.null, .int 6, .int 0, .null, .null, .int 0, .int 0, .int 1], vm := .none },
  { cls := 6, slots := #[.null, .int 7, .int 0, .null, .null, .int 0, .int 0, .int 1], vm := .none },
  { cls := 6, slots := #[.null, .int 8, .int 0, .null, .null, .int 0, .int 0, .int 1], vm := .none },
  { cls := 6, slots := #[.null, .int 9, .int 0, .null, .null, .int 0, .int 0, .int 1], vm := .none },
  { cls := 6, slots := #[.null, .int 10, .int 0, .null, .null, .int 0, .int 0, .int 1], vm := .none },
  { cls := 6, slots := #[.null, .int 11, .int 0, .null, .null, .int 0, .int 0, .int 1], vm := .none },
  { cls := 6, slots := #[.null, .int 12, .int 0, .null, .null, .int 0, .int 0, .int 1], vm := .none },
  { cls := 6, slots := #[.null, .int 13, .int 0, .null, .null, .int 0, .int 0, .int 1], vm := .none },
  { cls := 6, slots := #[.null, .int 14, .int 0, .null, .null, .int 0, .int 0, .int 1], vm := .none },
  { cls := 6, slots := #[.null, .int 15, .int 0, .null, .null, .int 0, .int 0, .int 1], vm := .none },
  { cls := 6, slots := #[.null, .int 16, .int 0, .null, .null, .int 0, .int 0, .int 1], vm := .none },
  { cls := 6, slots := #[.null, .int 17, .int 0, .null, .null, .int 0, .int 0, .int 0], vm := .none },
  { cls := 6, slots := #[.null, .int 18, .int 0, .null, .null, .int 0, .int 0, .int 0], vm := .none },
  { cls := 6, slots := #[.null, .int 19, .int 0, .null, .null, .int 0, .int 0, .int 0], vm := .none }]
def classes : Array Class := #[k0, k1, k2, k3, k4, k5, k6, k7, k8, k9, k10, k11, k12]
def interned : List (Array UInt16 × Addr) := []
def slotsUsed : Nat := 182
def theMethod : MethodId := ⟨1, 1⟩
def args0 : Array Value := #[.int 5]
def aboutOver (below : List Frame) : State where
  vm := { classes := classes, interned := interned.toArray }
  heap := heap
  slotsUsed := slotsUsed
  threads := #[{ frames := .invoking theMethod args0 :: below }]
def below0 : List Frame := [.native { method := ⟨0, 0⟩, args := #[] }]
def about1 : State := aboutOver below0
def p0 : Program := .bare "" "" ""
def e0 : Env := launch0.env 0 0 0
theorem w_frames : about1.frames = Frame.invoking theMethod args0 :: below0 := rfl
set_option maxRecDepth 65536 in
theorem w_args : argsFit about1.vm theMethod args0 = true := by decide +kernel
set_option maxRecDepth 65536 in
theorem w_heap : heapFits about1 = true := by decide +kernel
set_option maxRecDepth 65536 in
theorem w_runnable : about1.curStatus? = some .runnable := by decide +kernel
set_option maxRecDepth 65536 in
theorem w_alone : about1.alone = true := by decide +kernel
set_option maxRecDepth 65536 in
theorem w_named : about1.methodNamed? x = some theMethod := by decide +kernel
set_option maxRecDepth 65536 in
theorem w_hears : about1.hears theMethod below0 = true := by decide +kernel
set_option maxRecDepth 65536 in
theorem w_ripe : about1.ripe theMethod args0 below0 = true := by decide +kernel
theorem w_running : about1.status = .running := rfl
set_option maxRecDepth 65536 in
theorem w_room : about1.hasRoom e0.platform room_1 = true :=
  launch0.hasRoom_least _ room_1 (by decide +kernel) (by decide +kernel) (by decide +kernel) (by decide +kernel) (by decide +kernel) (by decide +kernel)
theorem allAtoms_all (ts : List Jvm.Cond) (a : Array Jvm.Value) (st : Jvm.State) : (allAtoms ts).before a st = ts.all (fun c => c.before a st) := by
  induction ts with
  | nil => rfl
  | cons c t ih =>
    show (Jvm.Cond.and c (allAtoms t)).before a st = _
    rw [Jvm.Cond.before_and, ih, List.all_cons]
def words1 : List Jvm.Cond := Jvm.Cond.code x code maxLocals ret :: tables_1
/-- a 'code' word, met by the world's own term for the bytes: nothing is compared byte by byte -/
theorem code_word {y : MethodName} {bytes : ByteArray} {mx : Nat} {rt : Option FieldType} {a : Array Value} {s : State} {m : MethodId} {meth : Method} {c : Code} (h1 : s.methodNamed? y = some m) (h2 : s.vm.method? m = some meth) (h3 : meth.code = some c) (h4 : c.code = bytes)
    (h5 : (c.maxLocals == mx && c.exceptionTable.isEmpty && decide (c.maxStack ≤ mostOperands) && decide (meth.sig.returnType = rt) && !meth.locks && decide (parseMethodDescriptor y.desc = some meth.sig)) = true) : (Jvm.Cond.code y bytes mx rt).before a s = true := by
  simp only [Bool.and_eq_true, beq_iff_eq, Bool.not_eq_true', decide_eq_true_eq] at h5
  obtain ⟨⟨⟨⟨⟨g1, g2⟩, g3⟩, g4⟩, g5⟩, g6⟩ := h5
  simp [Cond.before, Cond.holds, Cond.value, h1, h2, h3, h4, g1, g2, g3, g4, g5, g6]
def isCode : Jvm.Cond → Bool
  | .code _ _ _ _ => true
  | _ => false
theorem all_split {L : List Jvm.Cond} {P : Jvm.Cond → Bool} (h1 : L.all (fun c => isCode c || P c) = true) (h2 : ∀ c ∈ L.filter isCode, P c = true) : L.all P = true := by
  refine List.all_eq_true.mpr fun c hc => ?_
  have h := List.all_eq_true.mp h1 c hc
  rcases Bool.eq_false_or_eq_true (isCode c) with hi | hi
  · exact h2 c (List.mem_filter.mpr ⟨hc, hi⟩)
  · simpa [hi] using h
set_option maxRecDepth 65536 in
theorem w_c0 : (Jvm.Cond.code x code maxLocals ret).before args0 about1 = true := code_word (m := ⟨1, 1⟩) (meth := k1m1) (c := k1c1) (by decide +kernel) rfl rfl rfl (by decide +kernel)
set_option maxRecDepth 65536 in
theorem w_c1 : (Jvm.Cond.code ({ cls := "org/serialis/net/Protocol$Request", name := "isByClient", desc := "()Z" } : Jvm.MethodName) prog_76_method_6_code (1 : Nat) (Option.some Jvm.ClassFile.FieldType.boolean)).before args0 about1 = true := code_word (m := ⟨6, 0⟩) (meth := k6m0) (c := k6c0) (by decide +kernel) rfl rfl rfl (by decide +kernel)
def codes1 : List Jvm.Cond := [Jvm.Cond.code x code maxLocals ret, Jvm.Cond.code ({ cls := "org/serialis/net/Protocol$Request", name := "isByClient", desc := "()Z" } : Jvm.MethodName) prog_76_method_6_code (1 : Nat) (Option.some Jvm.ClassFile.FieldType.boolean)]
set_option maxRecDepth 65536 in
theorem codes_eq : words1.filter isCode = codes1 := rfl
theorem w_codes : ∀ c ∈ words1.filter isCode, c.before args0 about1 = true := by
  rw [codes_eq]
  intro c hc
  simp only [codes1, List.mem_cons, List.not_mem_nil, or_false] at hc
  rcases hc with rfl | rfl
  · exact w_c0
  · exact w_c1
set_option maxRecDepth 65536 in
theorem w_t1 : (words1.take 24).all (fun c => isCode c || c.before args0 about1) = true := by decide +kernel
set_option maxRecDepth 65536 in
theorem w_t2 : ((words1.drop 24).take 24).all (fun c => isCode c || c.before args0 about1) = true := by decide +kernel
set_option maxRecDepth 65536 in
theorem w_t3 : ((words1.drop 24).drop 24).all (fun c => isCode c || c.before args0 about1) = true := by decide +kernel
theorem w_tables : (allAtoms (Jvm.Cond.code x code maxLocals ret :: tables_1)).before args0 about1 = true := by
  rw [allAtoms_all]
  show words1.all (fun c => c.before args0 about1) = true
  refine all_split ?_ w_codes
  rw [← List.take_append_drop 24 words1, List.all_append, w_t1, ← List.take_append_drop 24 (words1.drop 24), List.all_append, w_t2, w_t3]
  rfl
set_option maxRecDepth 65536 in
theorem w_case : (Jvm.Cond.and given_1 narrow_1).before args0 about1 = true := by decide +kernel
theorem w_applies : (headSpec (Jvm.Cond.code x code maxLocals ret :: tables_1) room_1).applies x e0.platform about1 = true :=
  (Spec.applies_iff w_frames).mpr ⟨w_running, w_runnable, w_alone, w_named, w_hears, w_ripe, w_room, w_tables⟩
theorem atStart : AtStart classFile x code maxLocals ret World_1 tables_1 room_1 Calls_1 rest_1 Pre_1 launch0 p0 e0 about1 theMethod args0 below0 :=
  ⟨lists_1, trivial, launch0.admits_env _ _ _, launch0.least_env, fairChoices_fair.cas, fairChoices_fair.clock, w_frames, w_args, w_heap, w_applies, trivial, trivial, w_case⟩
end start1
theorem witness_1 : WitnessClaimed_1 := ⟨start1.p0, start1.e0, start1.about1, start1.theMethod, start1.args0, start1.below0, start1.atStart⟩
end Jvm.Pilot.@@N@@
