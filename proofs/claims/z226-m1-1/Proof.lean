import JvmDerived
import JvmDerived.Pilot.@@N@@Statement
import JvmDerived.Pilot.@@N@@Code
set_option linter.unusedVariables false
set_option linter.unusedSimpArgs false
namespace Jvm.Pilot.@@N@@
open Jvm Jvm.ClassFile Sem Op Lib Jvm.Free Jvm.Stand Jvm.LawKit Jvm.RoadKit Bundle Jvm.Pilot.@@N@@.Jvm.D
abbrev sF (T : State) (m : MethodId) (pc : Nat) (Ls : Array Slot) (st : List Value) : State := T.setTop (mkF m pc Ls st)
/-- from F the run goes on to the method's end, and W holds there -/
def Goes (p : Program) (e : Env) (below : List Frame) (W : Outcome → State → Prop) (F : State) : Prop := ∃ s₂ o, Steps p.tables e below F s₂ ∧ s₂.status = .running ∧ Ended s₂ below o ∧ W o s₂
theorem Goes.step {p : Program} {e : Env} {below : List Frame} {W : Outcome → State → Prop} {F F' : State} (g : Goes p e below W F') (h : ∀ t, Steps p.tables e below F' t → Steps p.tables e below F t) : Goes p e below W F := by
  obtain ⟨s₂, o, h1, h2⟩ := g
  exact ⟨s₂, o, h _ h1, h2⟩
section Fin
variable {p : Program} {l : Launch} {e : Env} {R : Room} {s : State} {m : MethodId} {args : Array Value} {below : List Frame} {meth : Method} {c : Code} {T : State} {locs : List Loc} {cells slots : Nat}
theorem own_out (X : Stand p l e R s m args below meth c T locs cells slots) (hx : p.tables.exec = Jvm.exec) (hlk : meth.locks = false) {pc : Nat} {Ls : Array Slot} {w : Value} {t : FieldType} {i : Instr} {rest : List Value} {P : Option Value → Heap → List Loc → Prop} {C N : Nat} (hret : meth.sig.returnType = some t) (hn : narrow t w = w)
    (hi : (i = .ireturn ∧ (t = .int ∨ t = .boolean ∨ t = .byte ∨ t = .char ∨ t = .short) ∧ ∃ z, w = .int z) ∨ (i = .lreturn ∧ t = .long ∧ ∃ z, w = .long z) ∨ (i = .dreturn ∧ t = .double ∧ ∃ z, w = .double z) ∨ (i = .freturn ∧ t = .float ∧ ∃ z, w = .float z) ∨ (i = .areturn ∧ t.isReference = true ∧ w.isRef = true))
    (hd : decode c.code pc = .ok (i, 1)) (hP : P (some w) T.heap locs) (hC : cells ≤ C) (hN : slots ≤ N) :
    Goes p e below (fun o U' => ∃ v L, o = .returned v ∧ P v U'.heap L ∧ FrameEnd s o U' L C N) (T.setTop (mkF m pc Ls (w :: rest))) := by
  obtain ⟨fs, hr, hrun, hended, hW, hsame⟩ := X.leave (v := some w) (fun h => by rw [hret] at h; cases h)
  exact ⟨_, _, retOut X hx hret hn hi hd hr, hrun, hended, _, _, rfl, hP, ⟨_, rfl⟩, hW, hsame.mono hC hN⟩
theorem own_outV (X : Stand p l e R s m args below meth c T locs cells slots) (hx : p.tables.exec = Jvm.exec) (hlk : meth.locks = false) {pc : Nat} {Ls : Array Slot} {P : Option Value → Heap → List Loc → Prop} {C N : Nat} (hret : meth.sig.returnType = none)
    (hd : decode c.code pc = .ok (.return_, 1)) (hP : P none T.heap locs) (hC : cells ≤ C) (hN : slots ≤ N) :
    Goes p e below (fun o U' => ∃ v L, o = .returned v ∧ P v U'.heap L ∧ FrameEnd s o U' L C N) (T.setTop (mkF m pc Ls [])) := by
  obtain ⟨fs, hr, hrun, hended, hW, hsame⟩ := X.leave (v := none) (fun _ => rfl)
  exact ⟨_, _, X.returnOut hx hret hd hr, hrun, hended, _, _, rfl, hP, ⟨_, rfl⟩, hW, hsame.mono hC hN⟩
theorem own_outW {vm₁ : Vm} {n : Nat} (X : Stand p l e R (s.setVm vm₁) m args below meth c T locs cells slots) (hS : s.Since vm₁ n) (hn : n ≤ T.heap.size) (hx : p.tables.exec = Jvm.exec) (hlk : meth.locks = false) {pc : Nat} {Ls : Array Slot} {w : Value} {t : FieldType} {i : Instr} {rest : List Value} {P : Option Value → Heap → List Loc → Prop} {C N : Nat} (hret : meth.sig.returnType = some t) (hnw : narrow t w = w)
    (hi : (i = .ireturn ∧ (t = .int ∨ t = .boolean ∨ t = .byte ∨ t = .char ∨ t = .short) ∧ ∃ z, w = .int z) ∨ (i = .lreturn ∧ t = .long ∧ ∃ z, w = .long z) ∨ (i = .dreturn ∧ t = .double ∧ ∃ z, w = .double z) ∨ (i = .freturn ∧ t = .float ∧ ∃ z, w = .float z) ∨ (i = .areturn ∧ t.isReference = true ∧ w.isRef = true))
    (hd : decode c.code pc = .ok (i, 1)) (hP : P (some w) T.heap locs) (hC : cells ≤ C) (hN : slots ≤ N) :
    Goes p e below (fun o U' => ∃ v L, o = .returned v ∧ P v U'.heap L ∧ ReturnedEndW s o U' L C N) (T.setTop (mkF m pc Ls (w :: rest))) := by
  obtain ⟨fs, hr, hrun, hended, h1, h2, h3, h4⟩ := X.leaveW hS hn (v := some w) (fun h => by rw [hret] at h; cases h)
  exact ⟨_, _, retOut X hx hret hnw hi hd hr, hrun, hended, _, _, rfl, hP, h1, h2, h3, h4.mono hC hN⟩
theorem own_outVW {vm₁ : Vm} {n : Nat} (X : Stand p l e R (s.setVm vm₁) m args below meth c T locs cells slots) (hS : s.Since vm₁ n) (hn : n ≤ T.heap.size) (hx : p.tables.exec = Jvm.exec) (hlk : meth.locks = false) {pc : Nat} {Ls : Array Slot} {P : Option Value → Heap → List Loc → Prop} {C N : Nat} (hret : meth.sig.returnType = none)
    (hd : decode c.code pc = .ok (.return_, 1)) (hP : P none T.heap locs) (hC : cells ≤ C) (hN : slots ≤ N) :
    Goes p e below (fun o U' => ∃ v L, o = .returned v ∧ P v U'.heap L ∧ ReturnedEndW s o U' L C N) (T.setTop (mkF m pc Ls [])) := by
  obtain ⟨fs, hr, hrun, hended, h1, h2, h3, h4⟩ := X.leaveW hS hn (v := none) (fun _ => rfl)
  exact ⟨_, _, X.returnOut hx hret hd hr, hrun, hended, _, _, rfl, hP, h1, h2, h3, h4.mono hC hN⟩
theorem own_lrem {g : JFrame} {target : State} (X : Stand p l e R s m args below meth c T locs cells slots) (hx : p.tables.exec = Jvm.exec) (hg : g.method = m) {x y : Int64} {rest : List Value} (hd : decode c.code g.pc = .ok (.lrem, 1)) (hs : g.stack = .long y :: .long x :: rest) (hy : y ≠ 0)
    (hr : Steps p.tables e below (T.setTop { g with pc := g.pc + 1, stack := .long (x % y) :: rest }) target) : Steps p.tables e below (T.setTop g) target := by
  have q : x - x / y * y = x % y := lrem_mod x y
  exact XS.lrem X.here hx hg hd hs hy (by rw [q]; exact hr)
end Fin
def pickV (k : Int32) (w0 w1 w2 w3 w4 w5 : Addr) : Addr := if k = 0 then w0 else if k = 1 then w1 else if k = 2 then w2 else if k = 3 then w3 else if k = 4 then w4 else w5
def succV (k : Int32) : Int32 := if k = 0 then 2 else if k = 1 then 4 else if k = 2 then 2 else 0
def endV (a w3 w4 w5 : Addr) : Int32 := if a = w3 then 1 else if a = w4 then 1 else if a = w5 then 1 else 0
theorem pn_com_example_kairos_kairos_job_JobStatusIsEndPinLaw : plainName "com/example/kairos/kairos/job/JobStatusIsEndPinLaw" = true := by first | (simp [plainName, overriddenIn]; done) | decide +kernel
theorem ef_rm1 (m : MethodId) (x0 : Int32) : entryFrame m #[(.int x0)] 1 = mkF m 0 #[iv x0] [] := by first | (simp [entryFrame, mkF, argsToLocals, Value.category]; done) | rfl
def Q1 (Z : State) (r : Addr) (h0 : Heap) (n0 : Nat) (v : Option Value) (h : Heap) (L : List Loc) : Prop := v = some (.ref r) ∧ Fr n0 L ∧ h = h0
theorem d1_0 : decode method_3_code 0 = .ok (.iload_n 0, 1) := by decide +kernel
theorem d1_1 : decode method_3_code 1 = .ok (.ifCond .ne 7, 3) := by decide +kernel
theorem d1_4 : decode method_3_code 4 = .ok (.getstatic 24, 3) := by decide +kernel
theorem d1_7 : decode method_3_code 7 = .ok (.areturn, 1) := by decide +kernel
theorem d1_8 : decode method_3_code 8 = .ok (.iload_n 0, 1) := by decide +kernel
theorem d1_9 : decode method_3_code 9 = .ok (.iconst 1, 1) := by decide +kernel
theorem d1_10 : decode method_3_code 10 = .ok (.if_icmp .ne 7, 3) := by decide +kernel
theorem d1_13 : decode method_3_code 13 = .ok (.getstatic 28, 3) := by decide +kernel
theorem d1_16 : decode method_3_code 16 = .ok (.areturn, 1) := by decide +kernel
theorem d1_17 : decode method_3_code 17 = .ok (.iload_n 0, 1) := by decide +kernel
theorem d1_18 : decode method_3_code 18 = .ok (.iconst 2, 1) := by decide +kernel
theorem d1_19 : decode method_3_code 19 = .ok (.if_icmp .ne 7, 3) := by decide +kernel
theorem d1_22 : decode method_3_code 22 = .ok (.getstatic 31, 3) := by decide +kernel
theorem d1_25 : decode method_3_code 25 = .ok (.areturn, 1) := by decide +kernel
theorem d1_26 : decode method_3_code 26 = .ok (.iload_n 0, 1) := by decide +kernel
theorem d1_27 : decode method_3_code 27 = .ok (.iconst 3, 1) := by decide +kernel
theorem d1_28 : decode method_3_code 28 = .ok (.if_icmp .ne 7, 3) := by decide +kernel
theorem d1_31 : decode method_3_code 31 = .ok (.getstatic 34, 3) := by decide +kernel
theorem d1_34 : decode method_3_code 34 = .ok (.areturn, 1) := by decide +kernel
theorem d1_35 : decode method_3_code 35 = .ok (.iload_n 0, 1) := by decide +kernel
theorem d1_36 : decode method_3_code 36 = .ok (.iconst 4, 1) := by decide +kernel
theorem d1_37 : decode method_3_code 37 = .ok (.if_icmp .ne 7, 3) := by decide +kernel
theorem d1_40 : decode method_3_code 40 = .ok (.getstatic 37, 3) := by decide +kernel
theorem d1_43 : decode method_3_code 43 = .ok (.areturn, 1) := by decide +kernel
theorem d1_44 : decode method_3_code 44 = .ok (.getstatic 40, 3) := by decide +kernel
theorem d1_47 : decode method_3_code 47 = .ok (.areturn, 1) := by decide +kernel
set_option maxRecDepth 65536 in
set_option maxHeartbeats 40000000 in
theorem rm1 (l : Launch) (Z : State) (a0 : Array Value) (hw : ∀ d ∈ tables_1, d.before a0 Z = true) (ws : List Jvm.Cond) (p1 : Int32) (w0 : Addr) (w1 : Addr) (w2 : Addr) (w3 : Addr) (w4 : Addr) (w5 : Addr) (r : Addr) (h0 : Heap) (n0 : Nat) (Z0 : n0 ≤ h0.size) (S_PREP : Sta Z h0 "com/example/kairos/kairos/job/JobStatus" "PREP" "Lcom/example/kairos/kairos/job/JobStatus;" (.ref w0)) (S_RUNNING : Sta Z h0 "com/example/kairos/kairos/job/JobStatus" "RUNNING" "Lcom/example/kairos/kairos/job/JobStatus;" (.ref w1)) (S_SUSPENDED : Sta Z h0 "com/example/kairos/kairos/job/JobStatus" "SUSPENDED" "Lcom/example/kairos/kairos/job/JobStatus;" (.ref w2)) (S_SUCCEEDED : Sta Z h0 "com/example/kairos/kairos/job/JobStatus" "SUCCEEDED" "Lcom/example/kairos/kairos/job/JobStatus;" (.ref w3)) (S_KILLED : Sta Z h0 "com/example/kairos/kairos/job/JobStatus" "KILLED" "Lcom/example/kairos/kairos/job/JobStatus;" (.ref w4)) (S_FAILED : Sta Z h0 "com/example/kairos/kairos/job/JobStatus" "FAILED" "Lcom/example/kairos/kairos/job/JobStatus;" (.ref w5)) (hr : pickV p1 w0 w1 w2 w3 w4 w5 = r) :
    MetFree l (⟨"com/example/kairos/kairos/job/JobStatusIsEndPinLaw", "pick", "(I)Lcom/example/kairos/kairos/job/JobStatus;"⟩ : MethodName) (head1 (Jvm.Cond.code (⟨"com/example/kairos/kairos/job/JobStatusIsEndPinLaw", "pick", "(I)Lcom/example/kairos/kairos/job/JobStatus;"⟩ : MethodName) method_3_code 1 (some (.object "com/example/kairos/kairos/job/JobStatus")) :: ws) ({ frames := 0, cells := 0, slots := 0, locals := 0 } : Room)) (fun a U => a = #[(.int p1)] ∧ Z.Warmed39 U.vm ∧ U.heap = h0) (fun _ _ _ _ _ => True) (fun _ U o U' => ∃ v L, o = .returned v ∧ Q1 Z r h0 n0 v U'.heap L ∧ FrameEnd U o U' L ({ frames := 0, cells := 0, slots := 0, locals := 0 } : Room).cells ({ frames := 0, cells := 0, slots := 0, locals := 0 } : Room).slots) := by
  refine MetFree.of_bodySF (plainFor_of_name pn_com_example_kairos_kairos_job_JobStatusIsEndPinLaw) hisR ?_
  intro p e s m args below meth c s₁ Bd hml0 hP hK
  obtain ⟨rfl, hZ, hh⟩ := hP
  have hx := Bd.exec
  have hby := Bd.bytes
  have hlk : meth.locks = false := BodyLoose.notSynchronized Bd
  have hml : c.maxLocals = 1 := hml0
  have hown : s.vm.findClass "com/example/kairos/kairos/job/JobStatusIsEndPinLaw" = some m.cls := findClass_of_methodNamed Bd.named
  have hnm := (name_of_methodNamed Bd.named Bd.method).1
  have X0 : Stand p l e ({ frames := 0, cells := 0, slots := 0, locals := 0 } : Room) s m #[(.int p1)] below meth c s₁ [] 0 0 := Stand.of_body Bd
  have e0 : s₁.heap = h0 := by rw [← hh, Bd.state]; rfl
  have N0 := Fr.nil n0
  have hret := Bd.returns
  show Goes p e below (fun o U' => ∃ v L, o = .returned v ∧ Q1 Z r h0 n0 v U'.heap L ∧ FrameEnd s o U' L ({ frames := 0, cells := 0, slots := 0, locals := 0 } : Room).cells ({ frames := 0, cells := 0, slots := 0, locals := 0 } : Room).slots) (s₁.setTop (entryFrame m #[(.int p1)] 1))
  refine Goes.step ?_ (fun _ k => castTop (ef_rm1 m p1) k)
  show Goes p e below _ (sF s₁ m 0 #[iv p1] [])
  refine Goes.step ?_ (fun _ k => XS.iloadN X0.here hx rfl (hb hby d1_0) rfl  k)
  show Goes p e below _ (sF s₁ m 1 #[iv p1] [(.int p1)])
  by_cases hc1_1 : p1 = (0 : Int32)
  · refine Goes.step ?_ (fun _ k => XS.ifNo X0.here hx rfl (hb hby d1_1) rfl ((if0 _ _).trans (teq hc1_1).2) k)
    show Goes p e below _ (sF s₁ m 4 #[iv p1] [])
    obtain ⟨T2, X2, e2, st2⟩ := getS2 X0 hx hZ hown (host := "") (Or.inl (hw _ (List.mem_of_getElem? (i := 5) rfl))) Via.refl e0 S_PREP (g := (mkF m 4 #[iv p1] [])) rfl (hb hby d1_4)
    refine Goes.step ?_ st2
    show Goes p e below _ (sF T2 m 7 #[iv p1] [(.ref w0)])
    refine own_out X2 hx hlk hret rfl (Or.inr (Or.inr (Or.inr (Or.inr ⟨rfl, rfl, rfl⟩)))) (hb hby d1_7) ?_ (by decide) (by decide)
    show Q1 Z r h0 n0 _ T2.heap _
    rw [e2]
    exact ⟨by rw [← hr]; simp [pickV, hc1_1], N0, rfl⟩
  · refine Goes.step ?_ (fun _ k => XS.ifYes X0.here hx rfl (pc0 := 1) (pc' := 8) rfl (hb hby d1_1) rfl ((if0 _ _).trans (feq hc1_1).2) (by decide) (by decide) k)
    show Goes p e below _ (sF s₁ m 8 #[iv p1] [])
    refine Goes.step ?_ (fun _ k => XS.iloadN X0.here hx rfl (hb hby d1_8) rfl  k)
    show Goes p e below _ (sF s₁ m 9 #[iv p1] [(.int p1)])
    refine Goes.step ?_ (fun _ k => XS.iconst X0.here hx rfl (hb hby d1_9) k)
    show Goes p e below _ (sF s₁ m 10 #[iv p1] [(.int (1 : Int32)), (.int p1)])
    by_cases hc10_3 : p1 = (1 : Int32)
    · refine Goes.step ?_ (fun _ k => XS.icmpNo X0.here hx rfl (hb hby d1_10) rfl (teq hc10_3).2 k)
      show Goes p e below _ (sF s₁ m 13 #[iv p1] [])
      obtain ⟨T4, X4, e4, st4⟩ := getS2 X0 hx hZ hown (host := "") (Or.inl (hw _ (List.mem_of_getElem? (i := 25) rfl))) Via.refl e0 S_RUNNING (g := (mkF m 13 #[iv p1] [])) rfl (hb hby d1_13)
      refine Goes.step ?_ st4
      show Goes p e below _ (sF T4 m 16 #[iv p1] [(.ref w1)])
      refine own_out X4 hx hlk hret rfl (Or.inr (Or.inr (Or.inr (Or.inr ⟨rfl, rfl, rfl⟩)))) (hb hby d1_16) ?_ (by decide) (by decide)
      show Q1 Z r h0 n0 _ T4.heap _
      rw [e4]
      exact ⟨by rw [← hr]; simp [pickV, hc1_1, hc10_3], N0, rfl⟩
    · refine Goes.step ?_ (fun _ k => XS.icmpYes X0.here hx rfl (pc0 := 10) (pc' := 17) rfl (hb hby d1_10) rfl (feq hc10_3).2 (by decide) (by decide) k)
      show Goes p e below _ (sF s₁ m 17 #[iv p1] [])
      refine Goes.step ?_ (fun _ k => XS.iloadN X0.here hx rfl (hb hby d1_17) rfl  k)
      show Goes p e below _ (sF s₁ m 18 #[iv p1] [(.int p1)])
      refine Goes.step ?_ (fun _ k => XS.iconst X0.here hx rfl (hb hby d1_18) k)
      show Goes p e below _ (sF s₁ m 19 #[iv p1] [(.int (2 : Int32)), (.int p1)])
      by_cases hc19_5 : p1 = (2 : Int32)
      · refine Goes.step ?_ (fun _ k => XS.icmpNo X0.here hx rfl (hb hby d1_19) rfl (teq hc19_5).2 k)
        show Goes p e below _ (sF s₁ m 22 #[iv p1] [])
        obtain ⟨T6, X6, e6, st6⟩ := getS2 X0 hx hZ hown (host := "") (Or.inl (hw _ (List.mem_of_getElem? (i := 23) rfl))) Via.refl e0 S_SUSPENDED (g := (mkF m 22 #[iv p1] [])) rfl (hb hby d1_22)
        refine Goes.step ?_ st6
        show Goes p e below _ (sF T6 m 25 #[iv p1] [(.ref w2)])
        refine own_out X6 hx hlk hret rfl (Or.inr (Or.inr (Or.inr (Or.inr ⟨rfl, rfl, rfl⟩)))) (hb hby d1_25) ?_ (by decide) (by decide)
        show Q1 Z r h0 n0 _ T6.heap _
        rw [e6]
        exact ⟨by rw [← hr]; simp [pickV, hc1_1, hc10_3, hc19_5], N0, rfl⟩
      · refine Goes.step ?_ (fun _ k => XS.icmpYes X0.here hx rfl (pc0 := 19) (pc' := 26) rfl (hb hby d1_19) rfl (feq hc19_5).2 (by decide) (by decide) k)
        show Goes p e below _ (sF s₁ m 26 #[iv p1] [])
        refine Goes.step ?_ (fun _ k => XS.iloadN X0.here hx rfl (hb hby d1_26) rfl  k)
        show Goes p e below _ (sF s₁ m 27 #[iv p1] [(.int p1)])
        refine Goes.step ?_ (fun _ k => XS.iconst X0.here hx rfl (hb hby d1_27) k)
        show Goes p e below _ (sF s₁ m 28 #[iv p1] [(.int (3 : Int32)), (.int p1)])
        by_cases hc28_7 : p1 = (3 : Int32)
        · refine Goes.step ?_ (fun _ k => XS.icmpNo X0.here hx rfl (hb hby d1_28) rfl (teq hc28_7).2 k)
          show Goes p e below _ (sF s₁ m 31 #[iv p1] [])
          obtain ⟨T8, X8, e8, st8⟩ := getS2 X0 hx hZ hown (host := "") (Or.inl (hw _ (List.mem_of_getElem? (i := 22) rfl))) Via.refl e0 S_SUCCEEDED (g := (mkF m 31 #[iv p1] [])) rfl (hb hby d1_31)
          refine Goes.step ?_ st8
          show Goes p e below _ (sF T8 m 34 #[iv p1] [(.ref w3)])
          refine own_out X8 hx hlk hret rfl (Or.inr (Or.inr (Or.inr (Or.inr ⟨rfl, rfl, rfl⟩)))) (hb hby d1_34) ?_ (by decide) (by decide)
          show Q1 Z r h0 n0 _ T8.heap _
          rw [e8]
          exact ⟨by rw [← hr]; simp [pickV, hc1_1, hc10_3, hc19_5, hc28_7], N0, rfl⟩
        · refine Goes.step ?_ (fun _ k => XS.icmpYes X0.here hx rfl (pc0 := 28) (pc' := 35) rfl (hb hby d1_28) rfl (feq hc28_7).2 (by decide) (by decide) k)
          show Goes p e below _ (sF s₁ m 35 #[iv p1] [])
          refine Goes.step ?_ (fun _ k => XS.iloadN X0.here hx rfl (hb hby d1_35) rfl  k)
          show Goes p e below _ (sF s₁ m 36 #[iv p1] [(.int p1)])
          refine Goes.step ?_ (fun _ k => XS.iconst X0.here hx rfl (hb hby d1_36) k)
          show Goes p e below _ (sF s₁ m 37 #[iv p1] [(.int (4 : Int32)), (.int p1)])
          by_cases hc37_9 : p1 = (4 : Int32)
          · refine Goes.step ?_ (fun _ k => XS.icmpNo X0.here hx rfl (hb hby d1_37) rfl (teq hc37_9).2 k)
            show Goes p e below _ (sF s₁ m 40 #[iv p1] [])
            obtain ⟨T10, X10, e10, st10⟩ := getS2 X0 hx hZ hown (host := "") (Or.inl (hw _ (List.mem_of_getElem? (i := 28) rfl))) Via.refl e0 S_KILLED (g := (mkF m 40 #[iv p1] [])) rfl (hb hby d1_40)
            refine Goes.step ?_ st10
            show Goes p e below _ (sF T10 m 43 #[iv p1] [(.ref w4)])
            refine own_out X10 hx hlk hret rfl (Or.inr (Or.inr (Or.inr (Or.inr ⟨rfl, rfl, rfl⟩)))) (hb hby d1_43) ?_ (by decide) (by decide)
            show Q1 Z r h0 n0 _ T10.heap _
            rw [e10]
            exact ⟨by rw [← hr]; simp [pickV, hc1_1, hc10_3, hc19_5, hc28_7, hc37_9], N0, rfl⟩
          · refine Goes.step ?_ (fun _ k => XS.icmpYes X0.here hx rfl (pc0 := 37) (pc' := 44) rfl (hb hby d1_37) rfl (feq hc37_9).2 (by decide) (by decide) k)
            show Goes p e below _ (sF s₁ m 44 #[iv p1] [])
            obtain ⟨T11, X11, e11, st11⟩ := getS2 X0 hx hZ hown (host := "") (Or.inl (hw _ (List.mem_of_getElem? (i := 27) rfl))) Via.refl e0 S_FAILED (g := (mkF m 44 #[iv p1] [])) rfl (hb hby d1_44)
            refine Goes.step ?_ st11
            show Goes p e below _ (sF T11 m 47 #[iv p1] [(.ref w5)])
            refine own_out X11 hx hlk hret rfl (Or.inr (Or.inr (Or.inr (Or.inr ⟨rfl, rfl, rfl⟩)))) (hb hby d1_47) ?_ (by decide) (by decide)
            show Q1 Z r h0 n0 _ T11.heap _
            rw [e11]
            exact ⟨by rw [← hr]; simp [pickV, hc1_1, hc10_3, hc19_5, hc28_7, hc37_9], N0, rfl⟩
theorem ef_rm2 (m : MethodId) (x0 : Int32) : entryFrame m #[(.int x0)] 1 = mkF m 0 #[iv x0] [] := by first | (simp [entryFrame, mkF, argsToLocals, Value.category]; done) | rfl
def Q2 (Z : State) (r : Int32) (h0 : Heap) (n0 : Nat) (v : Option Value) (h : Heap) (L : List Loc) : Prop := v = some (.int r) ∧ Fr n0 L ∧ h = h0
theorem d2_0 : decode method_4_code 0 = .ok (.iload_n 0, 1) := by decide +kernel
theorem d2_1 : decode method_4_code 1 = .ok (.ifCond .ne 5, 3) := by decide +kernel
theorem d2_4 : decode method_4_code 4 = .ok (.iconst 2, 1) := by decide +kernel
theorem d2_5 : decode method_4_code 5 = .ok (.ireturn, 1) := by decide +kernel
theorem d2_6 : decode method_4_code 6 = .ok (.iload_n 0, 1) := by decide +kernel
theorem d2_7 : decode method_4_code 7 = .ok (.iconst 1, 1) := by decide +kernel
theorem d2_8 : decode method_4_code 8 = .ok (.if_icmp .ne 5, 3) := by decide +kernel
theorem d2_11 : decode method_4_code 11 = .ok (.iconst 4, 1) := by decide +kernel
theorem d2_12 : decode method_4_code 12 = .ok (.ireturn, 1) := by decide +kernel
theorem d2_13 : decode method_4_code 13 = .ok (.iload_n 0, 1) := by decide +kernel
theorem d2_14 : decode method_4_code 14 = .ok (.iconst 2, 1) := by decide +kernel
theorem d2_15 : decode method_4_code 15 = .ok (.if_icmp .ne 5, 3) := by decide +kernel
theorem d2_18 : decode method_4_code 18 = .ok (.iconst 2, 1) := by decide +kernel
theorem d2_19 : decode method_4_code 19 = .ok (.ireturn, 1) := by decide +kernel
theorem d2_20 : decode method_4_code 20 = .ok (.iconst 0, 1) := by decide +kernel
theorem d2_21 : decode method_4_code 21 = .ok (.ireturn, 1) := by decide +kernel
set_option maxRecDepth 65536 in
set_option maxHeartbeats 40000000 in
theorem rm2 (l : Launch) (Z : State) (a0 : Array Value) (hw : ∀ d ∈ tables_1, d.before a0 Z = true) (ws : List Jvm.Cond) (p1 : Int32) (r : Int32) (h0 : Heap) (n0 : Nat) (Z0 : n0 ≤ h0.size) (hr : succV p1 = r) :
    MetFree l (⟨"com/example/kairos/kairos/job/JobStatusIsEndPinLaw", "successors", "(I)I"⟩ : MethodName) (head1 (Jvm.Cond.code (⟨"com/example/kairos/kairos/job/JobStatusIsEndPinLaw", "successors", "(I)I"⟩ : MethodName) method_4_code 1 (some .int) :: ws) ({ frames := 0, cells := 0, slots := 0, locals := 0 } : Room)) (fun a U => a = #[(.int p1)] ∧ Z.Warmed39 U.vm ∧ U.heap = h0) (fun _ _ _ _ _ => True) (fun _ U o U' => ∃ v L, o = .returned v ∧ Q2 Z r h0 n0 v U'.heap L ∧ FrameEnd U o U' L ({ frames := 0, cells := 0, slots := 0, locals := 0 } : Room).cells ({ frames := 0, cells := 0, slots := 0, locals := 0 } : Room).slots) := by
  refine MetFree.of_bodySF (plainFor_of_name pn_com_example_kairos_kairos_job_JobStatusIsEndPinLaw) hisR ?_
  intro p e s m args below meth c s₁ Bd hml0 hP hK
  obtain ⟨rfl, hZ, hh⟩ := hP
  have hx := Bd.exec
  have hby := Bd.bytes
  have hlk : meth.locks = false := BodyLoose.notSynchronized Bd
  have hml : c.maxLocals = 1 := hml0
  have hown : s.vm.findClass "com/example/kairos/kairos/job/JobStatusIsEndPinLaw" = some m.cls := findClass_of_methodNamed Bd.named
  have hnm := (name_of_methodNamed Bd.named Bd.method).1
  have X0 : Stand p l e ({ frames := 0, cells := 0, slots := 0, locals := 0 } : Room) s m #[(.int p1)] below meth c s₁ [] 0 0 := Stand.of_body Bd
  have e0 : s₁.heap = h0 := by rw [← hh, Bd.state]; rfl
  have N0 := Fr.nil n0
  have hret := Bd.returns
  show Goes p e below (fun o U' => ∃ v L, o = .returned v ∧ Q2 Z r h0 n0 v U'.heap L ∧ FrameEnd s o U' L ({ frames := 0, cells := 0, slots := 0, locals := 0 } : Room).cells ({ frames := 0, cells := 0, slots := 0, locals := 0 } : Room).slots) (s₁.setTop (entryFrame m #[(.int p1)] 1))
  refine Goes.step ?_ (fun _ k => castTop (ef_rm2 m p1) k)
  show Goes p e below _ (sF s₁ m 0 #[iv p1] [])
  refine Goes.step ?_ (fun _ k => XS.iloadN X0.here hx rfl (hb hby d2_0) rfl  k)
  show Goes p e below _ (sF s₁ m 1 #[iv p1] [(.int p1)])
  by_cases hc1_1 : p1 = (0 : Int32)
  · refine Goes.step ?_ (fun _ k => XS.ifNo X0.here hx rfl (hb hby d2_1) rfl ((if0 _ _).trans (teq hc1_1).2) k)
    show Goes p e below _ (sF s₁ m 4 #[iv p1] [])
    refine Goes.step ?_ (fun _ k => XS.iconst X0.here hx rfl (hb hby d2_4) k)
    show Goes p e below _ (sF s₁ m 5 #[iv p1] [(.int (2 : Int32))])
    refine own_out X0 hx hlk hret rfl (Or.inl ⟨rfl, by simp, _, rfl⟩) (hb hby d2_5) ?_ (by decide) (by decide)
    show Q2 Z r h0 n0 _ s₁.heap _
    rw [e0]
    exact ⟨by rw [← hr]; simp [succV, hc1_1], N0, rfl⟩
  · refine Goes.step ?_ (fun _ k => XS.ifYes X0.here hx rfl (pc0 := 1) (pc' := 6) rfl (hb hby d2_1) rfl ((if0 _ _).trans (feq hc1_1).2) (by decide) (by decide) k)
    show Goes p e below _ (sF s₁ m 6 #[iv p1] [])
    refine Goes.step ?_ (fun _ k => XS.iloadN X0.here hx rfl (hb hby d2_6) rfl  k)
    show Goes p e below _ (sF s₁ m 7 #[iv p1] [(.int p1)])
    refine Goes.step ?_ (fun _ k => XS.iconst X0.here hx rfl (hb hby d2_7) k)
    show Goes p e below _ (sF s₁ m 8 #[iv p1] [(.int (1 : Int32)), (.int p1)])
    by_cases hc8_2 : p1 = (1 : Int32)
    · refine Goes.step ?_ (fun _ k => XS.icmpNo X0.here hx rfl (hb hby d2_8) rfl (teq hc8_2).2 k)
      show Goes p e below _ (sF s₁ m 11 #[iv p1] [])
      refine Goes.step ?_ (fun _ k => XS.iconst X0.here hx rfl (hb hby d2_11) k)
      show Goes p e below _ (sF s₁ m 12 #[iv p1] [(.int (4 : Int32))])
      refine own_out X0 hx hlk hret rfl (Or.inl ⟨rfl, by simp, _, rfl⟩) (hb hby d2_12) ?_ (by decide) (by decide)
      show Q2 Z r h0 n0 _ s₁.heap _
      rw [e0]
      exact ⟨by rw [← hr]; simp [succV, hc1_1, hc8_2], N0, rfl⟩
    · refine Goes.step ?_ (fun _ k => XS.icmpYes X0.here hx rfl (pc0 := 8) (pc' := 13) rfl (hb hby d2_8) rfl (feq hc8_2).2 (by decide) (by decide) k)
      show Goes p e below _ (sF s₁ m 13 #[iv p1] [])
      refine Goes.step ?_ (fun _ k => XS.iloadN X0.here hx rfl (hb hby d2_13) rfl  k)
      show Goes p e below _ (sF s₁ m 14 #[iv p1] [(.int p1)])
      refine Goes.step ?_ (fun _ k => XS.iconst X0.here hx rfl (hb hby d2_14) k)
      show Goes p e below _ (sF s₁ m 15 #[iv p1] [(.int (2 : Int32)), (.int p1)])
      by_cases hc15_3 : p1 = (2 : Int32)
      · refine Goes.step ?_ (fun _ k => XS.icmpNo X0.here hx rfl (hb hby d2_15) rfl (teq hc15_3).2 k)
        show Goes p e below _ (sF s₁ m 18 #[iv p1] [])
        refine Goes.step ?_ (fun _ k => XS.iconst X0.here hx rfl (hb hby d2_18) k)
        show Goes p e below _ (sF s₁ m 19 #[iv p1] [(.int (2 : Int32))])
        refine own_out X0 hx hlk hret rfl (Or.inl ⟨rfl, by simp, _, rfl⟩) (hb hby d2_19) ?_ (by decide) (by decide)
        show Q2 Z r h0 n0 _ s₁.heap _
        rw [e0]
        exact ⟨by rw [← hr]; simp [succV, hc1_1, hc8_2, hc15_3], N0, rfl⟩
      · refine Goes.step ?_ (fun _ k => XS.icmpYes X0.here hx rfl (pc0 := 15) (pc' := 20) rfl (hb hby d2_15) rfl (feq hc15_3).2 (by decide) (by decide) k)
        show Goes p e below _ (sF s₁ m 20 #[iv p1] [])
        refine Goes.step ?_ (fun _ k => XS.iconst X0.here hx rfl (hb hby d2_20) k)
        show Goes p e below _ (sF s₁ m 21 #[iv p1] [(.int (0 : Int32))])
        refine own_out X0 hx hlk hret rfl (Or.inl ⟨rfl, by simp, _, rfl⟩) (hb hby d2_21) ?_ (by decide) (by decide)
        show Q2 Z r h0 n0 _ s₁.heap _
        rw [e0]
        exact ⟨by rw [← hr]; simp [succV, hc1_1, hc8_2, hc15_3], N0, rfl⟩
theorem pn_com_example_kairos_kairos_job_JobStatus : plainName "com/example/kairos/kairos/job/JobStatus" = true := by first | (simp [plainName, overriddenIn]; done) | decide +kernel
theorem ef_rm3 (m : MethodId) (x0 : Addr) : entryFrame m #[(.ref x0)] 1 = mkF m 0 #[rv x0] [] := by first | (simp [entryFrame, mkF, argsToLocals, Value.category]; done) | rfl
theorem d3_0 : decode prog_26_method_4_code 0 = .ok (.aload_n 0, 1) := by decide +kernel
theorem d3_1 : decode prog_26_method_4_code 1 = .ok (.getstatic 13, 3) := by decide +kernel
theorem d3_4 : decode prog_26_method_4_code 4 = .ok (.if_acmp .eq 17, 3) := by decide +kernel
theorem d3_21 : decode prog_26_method_4_code 21 = .ok (.iconst 1, 1) := by decide +kernel
theorem d3_22 : decode prog_26_method_4_code 22 = .ok (.goto 4, 3) := by decide +kernel
theorem d3_26 : decode prog_26_method_4_code 26 = .ok (.ireturn, 1) := by decide +kernel
theorem d3_7 : decode prog_26_method_4_code 7 = .ok (.aload_n 0, 1) := by decide +kernel
theorem d3_8 : decode prog_26_method_4_code 8 = .ok (.getstatic 16, 3) := by decide +kernel
theorem d3_11 : decode prog_26_method_4_code 11 = .ok (.if_acmp .eq 10, 3) := by decide +kernel
theorem d3_14 : decode prog_26_method_4_code 14 = .ok (.aload_n 0, 1) := by decide +kernel
theorem d3_15 : decode prog_26_method_4_code 15 = .ok (.getstatic 19, 3) := by decide +kernel
theorem d3_18 : decode prog_26_method_4_code 18 = .ok (.if_acmp .ne 7, 3) := by decide +kernel
theorem d3_25 : decode prog_26_method_4_code 25 = .ok (.iconst 0, 1) := by decide +kernel
set_option maxRecDepth 65536 in
set_option maxHeartbeats 40000000 in
theorem rm3 (l : Launch) (Z : State) (a0 : Array Value) (hw : ∀ d ∈ tables_1, d.before a0 Z = true) (ws : List Jvm.Cond) (a1 : Addr) (w3 : Addr) (w4 : Addr) (w5 : Addr) (r : Int32) (h0 : Heap) (n0 : Nat) (Z0 : n0 ≤ h0.size) (S_SUCCEEDED : Sta Z h0 "com/example/kairos/kairos/job/JobStatus" "SUCCEEDED" "Lcom/example/kairos/kairos/job/JobStatus;" (.ref w3)) (S_KILLED : Sta Z h0 "com/example/kairos/kairos/job/JobStatus" "KILLED" "Lcom/example/kairos/kairos/job/JobStatus;" (.ref w4)) (S_FAILED : Sta Z h0 "com/example/kairos/kairos/job/JobStatus" "FAILED" "Lcom/example/kairos/kairos/job/JobStatus;" (.ref w5)) (hr : endV a1 w3 w4 w5 = r) :
    MetFree l (⟨"com/example/kairos/kairos/job/JobStatus", "isEnd", "()Z"⟩ : MethodName) (head1 (Jvm.Cond.code (⟨"com/example/kairos/kairos/job/JobStatus", "isEnd", "()Z"⟩ : MethodName) prog_26_method_4_code 1 (some .boolean) :: ws) ({ frames := 0, cells := 0, slots := 0, locals := 0 } : Room)) (fun a U => a = #[(.ref a1)] ∧ Z.Warmed39 U.vm ∧ U.heap = h0) (fun _ _ _ _ _ => True) (fun _ U o U' => ∃ v L, o = .returned v ∧ Q2 Z r h0 n0 v U'.heap L ∧ FrameEnd U o U' L ({ frames := 0, cells := 0, slots := 0, locals := 0 } : Room).cells ({ frames := 0, cells := 0, slots := 0, locals := 0 } : Room).slots) := by
  refine MetFree.of_bodySF (plainFor_of_name pn_com_example_kairos_kairos_job_JobStatus) hisR ?_
  intro p e s m args below meth c s₁ Bd hml0 hP hK
  obtain ⟨rfl, hZ, hh⟩ := hP
  have hx := Bd.exec
  have hby := Bd.bytes
  have hlk : meth.locks = false := BodyLoose.notSynchronized Bd
  have hml : c.maxLocals = 1 := hml0
  have hown : s.vm.findClass "com/example/kairos/kairos/job/JobStatus" = some m.cls := findClass_of_methodNamed Bd.named
  have hnm := (name_of_methodNamed Bd.named Bd.method).1
  have X0 : Stand p l e ({ frames := 0, cells := 0, slots := 0, locals := 0 } : Room) s m #[(.ref a1)] below meth c s₁ [] 0 0 := Stand.of_body Bd
  have e0 : s₁.heap = h0 := by rw [← hh, Bd.state]; rfl
  have N0 := Fr.nil n0
  have hret := Bd.returns
  show Goes p e below (fun o U' => ∃ v L, o = .returned v ∧ Q2 Z r h0 n0 v U'.heap L ∧ FrameEnd s o U' L ({ frames := 0, cells := 0, slots := 0, locals := 0 } : Room).cells ({ frames := 0, cells := 0, slots := 0, locals := 0 } : Room).slots) (s₁.setTop (entryFrame m #[(.ref a1)] 1))
  refine Goes.step ?_ (fun _ k => castTop (ef_rm3 m a1) k)
  show Goes p e below _ (sF s₁ m 0 #[rv a1] [])
  refine Goes.step ?_ (fun _ k => XS.aloadN X0.here hx rfl (hb hby d3_0) rfl rfl k)
  show Goes p e below _ (sF s₁ m 1 #[rv a1] [(.ref a1)])
  obtain ⟨T1, X1, e1, st1⟩ := getS2 X0 hx hZ hown (host := "") (Or.inl (hw _ (List.mem_of_getElem? (i := 16) rfl))) Via.refl e0 S_SUCCEEDED (g := (mkF m 1 #[rv a1] [(.ref a1)])) rfl (hb hby d3_1)
  refine Goes.step ?_ st1
  show Goes p e below _ (sF T1 m 4 #[rv a1] [(.ref w3), (.ref a1)])
  by_cases ha4_2 : a1 = w3
  · refine Goes.step ?_ (fun _ k => Jvm.RoadKit.acmp (g := (mkF m 4 #[rv a1] [(.ref w3), (.ref a1)])) X1 hx rfl rfl rfl (pc0 := 4) (pc' := 21) (same := true) rfl (hb hby d3_4) rfl (decide_eq_true (congrArg Value.ref ha4_2)) (by decide) (by decide) k)
    show Goes p e below _ (sF T1 m 21 #[rv a1] [])
    refine Goes.step ?_ (fun _ k => XS.iconst X1.here hx rfl (hb hby d3_21) k)
    show Goes p e below _ (sF T1 m 22 #[rv a1] [(.int (1 : Int32))])
    refine Goes.step ?_ (fun _ k => XS.goto X1.here hx rfl (pc0 := 22) (pc' := 26) rfl (hb hby d3_22) (by decide) (by decide) k)
    show Goes p e below _ (sF T1 m 26 #[rv a1] [(.int (1 : Int32))])
    refine own_out X1 hx hlk hret rfl (Or.inl ⟨rfl, by simp, _, rfl⟩) (hb hby d3_26) ?_ (by decide) (by decide)
    show Q2 Z r h0 n0 _ T1.heap _
    rw [e1]
    exact ⟨by rw [← hr]; simp [endV, ha4_2], N0, rfl⟩
  · refine Goes.step ?_ (fun _ k => Jvm.RoadKit.acmp (g := (mkF m 4 #[rv a1] [(.ref w3), (.ref a1)])) X1 hx rfl rfl rfl (pc0 := 4) (pc' := 7) (same := false) rfl (hb hby d3_4) rfl (decide_eq_false fun q => ha4_2 (Value.ref.inj q)) (by decide) (by decide) k)
    show Goes p e below _ (sF T1 m 7 #[rv a1] [])
    refine Goes.step ?_ (fun _ k => XS.aloadN X1.here hx rfl (hb hby d3_7) rfl rfl k)
    show Goes p e below _ (sF T1 m 8 #[rv a1] [(.ref a1)])
    obtain ⟨T3, X3, e3, st3⟩ := getS2 X1 hx hZ hown (host := "") (Or.inl (hw _ (List.mem_of_getElem? (i := 18) rfl))) Via.refl e1 S_KILLED (g := (mkF m 8 #[rv a1] [(.ref a1)])) rfl (hb hby d3_8)
    refine Goes.step ?_ st3
    show Goes p e below _ (sF T3 m 11 #[rv a1] [(.ref w4), (.ref a1)])
    by_cases ha11_4 : a1 = w4
    · refine Goes.step ?_ (fun _ k => Jvm.RoadKit.acmp (g := (mkF m 11 #[rv a1] [(.ref w4), (.ref a1)])) X3 hx rfl rfl rfl (pc0 := 11) (pc' := 21) (same := true) rfl (hb hby d3_11) rfl (decide_eq_true (congrArg Value.ref ha11_4)) (by decide) (by decide) k)
      show Goes p e below _ (sF T3 m 21 #[rv a1] [])
      refine Goes.step ?_ (fun _ k => XS.iconst X3.here hx rfl (hb hby d3_21) k)
      show Goes p e below _ (sF T3 m 22 #[rv a1] [(.int (1 : Int32))])
      refine Goes.step ?_ (fun _ k => XS.goto X3.here hx rfl (pc0 := 22) (pc' := 26) rfl (hb hby d3_22) (by decide) (by decide) k)
      show Goes p e below _ (sF T3 m 26 #[rv a1] [(.int (1 : Int32))])
      refine own_out X3 hx hlk hret rfl (Or.inl ⟨rfl, by simp, _, rfl⟩) (hb hby d3_26) ?_ (by decide) (by decide)
      show Q2 Z r h0 n0 _ T3.heap _
      rw [e3]
      exact ⟨by rw [← hr]; simp [endV, ha4_2, ha11_4], N0, rfl⟩
    · refine Goes.step ?_ (fun _ k => Jvm.RoadKit.acmp (g := (mkF m 11 #[rv a1] [(.ref w4), (.ref a1)])) X3 hx rfl rfl rfl (pc0 := 11) (pc' := 14) (same := false) rfl (hb hby d3_11) rfl (decide_eq_false fun q => ha11_4 (Value.ref.inj q)) (by decide) (by decide) k)
      show Goes p e below _ (sF T3 m 14 #[rv a1] [])
      refine Goes.step ?_ (fun _ k => XS.aloadN X3.here hx rfl (hb hby d3_14) rfl rfl k)
      show Goes p e below _ (sF T3 m 15 #[rv a1] [(.ref a1)])
      obtain ⟨T5, X5, e5, st5⟩ := getS2 X3 hx hZ hown (host := "") (Or.inl (hw _ (List.mem_of_getElem? (i := 20) rfl))) Via.refl e3 S_FAILED (g := (mkF m 15 #[rv a1] [(.ref a1)])) rfl (hb hby d3_15)
      refine Goes.step ?_ st5
      show Goes p e below _ (sF T5 m 18 #[rv a1] [(.ref w5), (.ref a1)])
      by_cases ha18_6 : a1 = w5
      · refine Goes.step ?_ (fun _ k => Jvm.RoadKit.acmp (g := (mkF m 18 #[rv a1] [(.ref w5), (.ref a1)])) X5 hx rfl rfl rfl (pc0 := 18) (pc' := 21) (same := true) rfl (hb hby d3_18) rfl (decide_eq_true (congrArg Value.ref ha18_6)) (by decide) (by decide) k)
        show Goes p e below _ (sF T5 m 21 #[rv a1] [])
        refine Goes.step ?_ (fun _ k => XS.iconst X5.here hx rfl (hb hby d3_21) k)
        show Goes p e below _ (sF T5 m 22 #[rv a1] [(.int (1 : Int32))])
        refine Goes.step ?_ (fun _ k => XS.goto X5.here hx rfl (pc0 := 22) (pc' := 26) rfl (hb hby d3_22) (by decide) (by decide) k)
        show Goes p e below _ (sF T5 m 26 #[rv a1] [(.int (1 : Int32))])
        refine own_out X5 hx hlk hret rfl (Or.inl ⟨rfl, by simp, _, rfl⟩) (hb hby d3_26) ?_ (by decide) (by decide)
        show Q2 Z r h0 n0 _ T5.heap _
        rw [e5]
        exact ⟨by rw [← hr]; simp [endV, ha4_2, ha11_4, ha18_6], N0, rfl⟩
      · refine Goes.step ?_ (fun _ k => Jvm.RoadKit.acmp (g := (mkF m 18 #[rv a1] [(.ref w5), (.ref a1)])) X5 hx rfl rfl rfl (pc0 := 18) (pc' := 25) (same := false) rfl (hb hby d3_18) rfl (decide_eq_false fun q => ha18_6 (Value.ref.inj q)) (by decide) (by decide) k)
        show Goes p e below _ (sF T5 m 25 #[rv a1] [])
        refine Goes.step ?_ (fun _ k => XS.iconst X5.here hx rfl (hb hby d3_25) k)
        show Goes p e below _ (sF T5 m 26 #[rv a1] [(.int (0 : Int32))])
        refine own_out X5 hx hlk hret rfl (Or.inl ⟨rfl, by simp, _, rfl⟩) (hb hby d3_26) ?_ (by decide) (by decide)
        show Q2 Z r h0 n0 _ T5.heap _
        rw [e5]
        exact ⟨by rw [← hr]; simp [endV, ha4_2, ha11_4, ha18_6], N0, rfl⟩
theorem ef_rm0 (m : MethodId) (x0 : Int32) : entryFrame m #[(.int x0)] maxLocals = mkF m 0 #[iv x0, .unset, .unset, .unset] [] := by first | (simp [entryFrame, mkF, argsToLocals, Value.category, maxLocals]; done) | rfl
def Q0 (Z : State) (h0 : Heap) (n0 : Nat) (v : Option Value) (h : Heap) (L : List Loc) : Prop := v = some (.int 1) ∧ Fr n0 L
theorem pd__28I_29Lcom_2fexample_2fkairos_2fkairos_2fjob_2fJobStatus_3b : parseMethodDescriptor "(I)Lcom/example/kairos/kairos/job/JobStatus;" = some ⟨[.int], some (.object "com/example/kairos/kairos/job/JobStatus")⟩ := by decide +kernel
theorem pd__28I_29I : parseMethodDescriptor "(I)I" = some ⟨[.int], some .int⟩ := by decide +kernel
theorem pd__28_29Z : parseMethodDescriptor "()Z" = some ⟨[], some .boolean⟩ := by decide +kernel
set_option maxRecDepth 65536 in
set_option maxHeartbeats 40000000 in
theorem rm0 (l : Launch) (Z : State) (a0 : Array Value) (hw : ∀ d ∈ tables_1, d.before a0 Z = true) (ws : List Jvm.Cond) (p1 : Int32) (w0 : Addr) (w1 : Addr) (w2 : Addr) (w3 : Addr) (w4 : Addr) (w5 : Addr) (a : Addr) (sv : Int32) (ev : Int32) (h0 : Heap) (n0 : Nat) (Z0 : n0 ≤ h0.size) (S_PREP : Sta Z h0 "com/example/kairos/kairos/job/JobStatus" "PREP" "Lcom/example/kairos/kairos/job/JobStatus;" (.ref w0)) (S_RUNNING : Sta Z h0 "com/example/kairos/kairos/job/JobStatus" "RUNNING" "Lcom/example/kairos/kairos/job/JobStatus;" (.ref w1)) (S_SUSPENDED : Sta Z h0 "com/example/kairos/kairos/job/JobStatus" "SUSPENDED" "Lcom/example/kairos/kairos/job/JobStatus;" (.ref w2)) (S_SUCCEEDED : Sta Z h0 "com/example/kairos/kairos/job/JobStatus" "SUCCEEDED" "Lcom/example/kairos/kairos/job/JobStatus;" (.ref w3)) (S_KILLED : Sta Z h0 "com/example/kairos/kairos/job/JobStatus" "KILLED" "Lcom/example/kairos/kairos/job/JobStatus;" (.ref w4)) (S_FAILED : Sta Z h0 "com/example/kairos/kairos/job/JobStatus" "FAILED" "Lcom/example/kairos/kairos/job/JobStatus;" (.ref w5)) (E_a : Exa Z h0 a "com/example/kairos/kairos/job/JobStatus") (hpick : pickV ((p1 &&& (2147483647 : Int32)) % (6 : Int32)) w0 w1 w2 w3 w4 w5 = a) (hsucc : succV ((p1 &&& (2147483647 : Int32)) % (6 : Int32)) = sv) (hend : endV a w3 w4 w5 = ev) (hcase : (sv = 0 ∧ ev = 1) ∨ (¬ sv = 0 ∧ ev = 0)) :
    MetFree l x (head1 (Jvm.Cond.code x code maxLocals ret :: ws) room_1) (fun a U => a = #[(.int p1)] ∧ Z.Warmed39 U.vm ∧ U.heap = h0) (fun _ _ _ _ _ => True) (fun _ U o U' => ∃ v L, o = .returned v ∧ Q0 Z h0 n0 v U'.heap L ∧ FrameEnd U o U' L room_1.cells room_1.slots) := by
  refine MetFree.of_bodySF (plainFor_of_name pn_com_example_kairos_kairos_job_JobStatusIsEndPinLaw) hisR ?_
  intro p e s m args below meth c s₁ Bd hml0 hP hK
  obtain ⟨rfl, hZ, hh⟩ := hP
  have hx := Bd.exec
  have hby := Bd.bytes
  have hlk : meth.locks = false := BodyLoose.notSynchronized Bd
  have hml : c.maxLocals = 4 := hml0
  have hown : s.vm.findClass "com/example/kairos/kairos/job/JobStatusIsEndPinLaw" = some m.cls := findClass_of_methodNamed Bd.named
  have hnm := (name_of_methodNamed Bd.named Bd.method).1
  have X0 : Stand p l e room_1 s m #[(.int p1)] below meth c s₁ [] 0 0 := Stand.of_body Bd
  have e0 : s₁.heap = h0 := by rw [← hh, Bd.state]; rfl
  have N0 := Fr.nil n0
  have hret := Bd.returns
  show Goes p e below (fun o U' => ∃ v L, o = .returned v ∧ Q0 Z h0 n0 v U'.heap L ∧ FrameEnd s o U' L room_1.cells room_1.slots) (s₁.setTop (entryFrame m #[(.int p1)] maxLocals))
  refine Goes.step ?_ (fun _ k => castTop (ef_rm0 m p1) k)
  rcases hcase with ⟨hs, he⟩ | ⟨hs, he⟩
  · show Goes p e below _ (sF s₁ m 0 #[iv p1, .unset, .unset, .unset] [])
    refine Goes.step ?_ (fun _ k => XS.iloadN X0.here hx rfl (hb hby at_0) rfl  k)
    show Goes p e below _ (sF s₁ m 1 #[iv p1, .unset, .unset, .unset] [(.int p1)])
    refine Goes.step ?_ (fun _ k => X0.ldcI hx hown (mvT hZ (hw _ (List.mem_of_getElem? (i := 0) rfl))) rfl (hb hby at_1) k)
    show Goes p e below _ (sF s₁ m 3 #[iv p1, .unset, .unset, .unset] [(.int (2147483647 : Int32)), (.int p1)])
    refine Goes.step ?_ (fun _ k => XS.iand X0.here hx rfl (hb hby at_3) rfl k)
    show Goes p e below _ (sF s₁ m 4 #[iv p1, .unset, .unset, .unset] [(.int (p1 &&& (2147483647 : Int32)))])
    refine Goes.step ?_ (fun _ k => XS.bipush X0.here hx rfl (hb hby at_4) k)
    show Goes p e below _ (sF s₁ m 6 #[iv p1, .unset, .unset, .unset] [(.int (6 : Int32)), (.int (p1 &&& (2147483647 : Int32)))])
    refine Goes.step ?_ (fun _ k => iremM X0 hx rfl (hb hby at_6) rfl (by decide) k)
    show Goes p e below _ (sF s₁ m 7 #[iv p1, .unset, .unset, .unset] [(.int ((p1 &&& (2147483647 : Int32)) % (6 : Int32)))])
    refine Goes.step ?_ (fun _ k => XS.istoreN X0.here hx rfl (hb hby at_7) rfl (l' := #[iv p1, iv ((p1 &&& (2147483647 : Int32)) % (6 : Int32)), .unset, .unset]) rfl k)
    show Goes p e below _ (sF s₁ m 8 #[iv p1, iv ((p1 &&& (2147483647 : Int32)) % (6 : Int32)), .unset, .unset] [])
    refine Goes.step ?_ (fun _ k => XS.iloadN X0.here hx rfl (hb hby at_8) rfl  k)
    show Goes p e below _ (sF s₁ m 9 #[iv p1, iv ((p1 &&& (2147483647 : Int32)) % (6 : Int32)), .unset, .unset] [(.int ((p1 &&& (2147483647 : Int32)) % (6 : Int32)))])
    obtain ⟨_, _, ⟨T1, L1, k1, n1⟩, -, X1, ⟨Lc1, hQ1, l1, y1, z1⟩, st1⟩ := Jvm.LawKit.callS X0 hx (y := (⟨"com/example/kairos/kairos/job/JobStatusIsEndPinLaw", "pick", "(I)Lcom/example/kairos/kairos/job/JobStatus;"⟩ : MethodName)) hown (mvT hZ (hw _ (List.mem_of_getElem? (i := 1) rfl))) (mvT hZ (hw _ (List.mem_of_getElem? (i := 2) rfl))) (mvT hZ (hw _ (List.mem_of_getElem? (i := 3) rfl))) (mvT hZ (hw _ (List.mem_of_getElem? (i := 4) rfl))) (by decide) (backOf (W := 0) (rm1 l Z a0 hw [] ((p1 &&& (2147483647 : Int32)) % (6 : Int32)) w0 w1 w2 w3 w4 w5 a h0 n0 Z0 S_PREP S_RUNNING S_SUSPENDED S_SUCCEEDED S_KILLED S_FAILED hpick) hZ (hw _ (List.mem_of_getElem? (i := 4) rfl)) (hw _ (List.mem_of_getElem? (i := 3) rfl)) (by decide) (by decide)) (g := (mkF m 9 #[iv p1, iv ((p1 &&& (2147483647 : Int32)) % (6 : Int32)), .unset, .unset] [(.int ((p1 &&& (2147483647 : Int32)) % (6 : Int32)))])) rfl (by rw [hml]; rfl) (argsL := [(.int ((p1 &&& (2147483647 : Int32)) % (6 : Int32)))]) (rest := []) (lenOf pd__28I_29Lcom_2fexample_2fkairos_2fkairos_2fjob_2fJobStatus_3b rfl) rfl (by show 2 * 0 + _ ≤ _; exact Nat.le_of_eq rfl) (hb hby at_9) (fun _ _ => ⟨rfl, e0, (by decide : 0 + 0 ≤ _), (by decide : 0 + 0 ≤ _)⟩)
    dsimp only [Pt.U, Pt.locs, Pt.cells, Pt.slots] at X1 l1 y1 z1 st1 hQ1
    subst l1 y1 z1
    obtain ⟨rfl, N1q, e1⟩ := hQ1
    have N1 := Fr.app N0 N1q
    refine Goes.step ?_ st1
    show Goes p e below _ (sF T1 m 12 #[iv p1, iv ((p1 &&& (2147483647 : Int32)) % (6 : Int32)), .unset, .unset] [(.ref a)])
    refine Goes.step ?_ (fun _ k => XS.astoreN X1.here hx rfl (hb hby at_12) rfl rfl (l' := #[iv p1, iv ((p1 &&& (2147483647 : Int32)) % (6 : Int32)), rv a, .unset]) rfl k)
    show Goes p e below _ (sF T1 m 13 #[iv p1, iv ((p1 &&& (2147483647 : Int32)) % (6 : Int32)), rv a, .unset] [])
    refine Goes.step ?_ (fun _ k => XS.iloadN X1.here hx rfl (hb hby at_13) rfl  k)
    show Goes p e below _ (sF T1 m 14 #[iv p1, iv ((p1 &&& (2147483647 : Int32)) % (6 : Int32)), rv a, .unset] [(.int ((p1 &&& (2147483647 : Int32)) % (6 : Int32)))])
    obtain ⟨_, _, ⟨T2, L2, k2, n2⟩, -, X2, ⟨Lc2, hQ2, l2, y2, z2⟩, st2⟩ := Jvm.LawKit.callS X1 hx (y := (⟨"com/example/kairos/kairos/job/JobStatusIsEndPinLaw", "successors", "(I)I"⟩ : MethodName)) hown (mvT hZ (hw _ (List.mem_of_getElem? (i := 8) rfl))) (mvT hZ (hw _ (List.mem_of_getElem? (i := 9) rfl))) (mvT hZ (hw _ (List.mem_of_getElem? (i := 3) rfl))) (mvT hZ (hw _ (List.mem_of_getElem? (i := 10) rfl))) (by decide) (backOf (W := 0) (rm2 l Z a0 hw [] ((p1 &&& (2147483647 : Int32)) % (6 : Int32)) sv h0 n0 Z0 hsucc) hZ (hw _ (List.mem_of_getElem? (i := 10) rfl)) (hw _ (List.mem_of_getElem? (i := 3) rfl)) (by decide) (by decide)) (g := (mkF m 14 #[iv p1, iv ((p1 &&& (2147483647 : Int32)) % (6 : Int32)), rv a, .unset] [(.int ((p1 &&& (2147483647 : Int32)) % (6 : Int32)))])) rfl (by rw [hml]; rfl) (argsL := [(.int ((p1 &&& (2147483647 : Int32)) % (6 : Int32)))]) (rest := []) (lenOf pd__28I_29I rfl) rfl (by show 2 * 0 + _ ≤ _; exact Nat.le_of_eq rfl) (hb hby at_14) (fun _ _ => ⟨rfl, e1, (by decide : 0 + 0 ≤ _), (by decide : 0 + 0 ≤ _)⟩)
    dsimp only [Pt.U, Pt.locs, Pt.cells, Pt.slots] at X2 l2 y2 z2 st2 hQ2
    subst l2 y2 z2
    obtain ⟨rfl, N2q, e2⟩ := hQ2
    have N2 := Fr.app N1 N2q
    refine Goes.step ?_ st2
    show Goes p e below _ (sF T2 m 17 #[iv p1, iv ((p1 &&& (2147483647 : Int32)) % (6 : Int32)), rv a, .unset] [(.int sv)])
    refine Goes.step ?_ (fun _ k => XS.ifNo X2.here hx rfl (hb hby at_17) rfl ((if0 _ _).trans (teq hs).2) k)
    show Goes p e below _ (sF T2 m 20 #[iv p1, iv ((p1 &&& (2147483647 : Int32)) % (6 : Int32)), rv a, .unset] [])
    refine Goes.step ?_ (fun _ k => XS.iconst X2.here hx rfl (hb hby at_20) k)
    show Goes p e below _ (sF T2 m 21 #[iv p1, iv ((p1 &&& (2147483647 : Int32)) % (6 : Int32)), rv a, .unset] [(.int (1 : Int32))])
    refine Goes.step ?_ (fun _ k => XS.goto X2.here hx rfl (pc0 := 21) (pc' := 25) rfl (hb hby at_21) (by decide) (by decide) k)
    show Goes p e below _ (sF T2 m 25 #[iv p1, iv ((p1 &&& (2147483647 : Int32)) % (6 : Int32)), rv a, .unset] [(.int (1 : Int32))])
    refine Goes.step ?_ (fun _ k => XS.istoreN X2.here hx rfl (hb hby at_25) rfl (l' := #[iv p1, iv ((p1 &&& (2147483647 : Int32)) % (6 : Int32)), rv a, iv (1 : Int32)]) rfl k)
    show Goes p e below _ (sF T2 m 26 #[iv p1, iv ((p1 &&& (2147483647 : Int32)) % (6 : Int32)), rv a, iv (1 : Int32)] [])
    refine Goes.step ?_ (fun _ k => XS.aloadN X2.here hx rfl (hb hby at_26) rfl rfl k)
    show Goes p e below _ (sF T2 m 27 #[iv p1, iv ((p1 &&& (2147483647 : Int32)) % (6 : Int32)), rv a, iv (1 : Int32)] [(.ref a)])
    obtain ⟨cq3, kq3, q3a, q3b, q3c⟩ := isOf hZ e2 E_a
    obtain ⟨_, _, ⟨T3, L3, k3, n3⟩, -, X3, ⟨Lc3, hQ3, l3, y3, z3⟩, st3⟩ := X2.virtualBack hx (y := (⟨"com/example/kairos/kairos/job/JobStatus", "isEnd", "()Z"⟩ : MethodName)) (z := (⟨"com/example/kairos/kairos/job/JobStatus", "isEnd", "()Z"⟩ : MethodName)) hown (mvT hZ (hw _ (List.mem_of_getElem? (i := 11) rfl))) (mvT hZ (hw _ (List.mem_of_getElem? (i := 12) rfl))) (notFace_of_selects (args := #[]) (mvT hZ (hw _ (List.mem_of_getElem? (i := 14) rfl)))) (mvT hZ (hw _ (List.mem_of_getElem? (i := 14) rfl))) (mvT hZ (hw _ (List.mem_of_getElem? (i := 13) rfl))) (by decide) (backOf (W := 0) (rm3 l Z a0 hw [] a w3 w4 w5 ev h0 n0 Z0 S_SUCCEEDED S_KILLED S_FAILED hend) hZ (hw _ (List.mem_of_getElem? (i := 15) rfl)) (hw _ (List.mem_of_getElem? (i := 6) rfl)) (by decide) (by decide)) q3a q3c (g := (mkF m 27 #[iv p1, iv ((p1 &&& (2147483647 : Int32)) % (6 : Int32)), rv a, iv (1 : Int32)] [(.ref a)])) rfl (by rw [hml]; rfl) (Steps.refl _) (argsL := []) (rest := []) (lenOf pd__28_29Z rfl) rfl (by show 2 * 0 + _ ≤ _; exact Nat.le_of_eq rfl) (hb hby at_27) (fun _ _ => ⟨rfl, e2, (by decide : 0 + 0 ≤ _), (by decide : 0 + 0 ≤ _)⟩)
    dsimp only [Pt.U, Pt.locs, Pt.cells, Pt.slots] at X3 l3 y3 z3 st3 hQ3
    subst l3 y3 z3
    obtain ⟨rfl, N3q, e3⟩ := hQ3
    have N3 := Fr.app N2 N3q
    refine Goes.step ?_ (fun _ k => st3.trans k)
    show Goes p e below _ (sF T3 m 30 #[iv p1, iv ((p1 &&& (2147483647 : Int32)) % (6 : Int32)), rv a, iv (1 : Int32)] [(.int ev)])
    refine Goes.step ?_ (fun _ k => XS.iloadN X3.here hx rfl (hb hby at_30) rfl  k)
    show Goes p e below _ (sF T3 m 31 #[iv p1, iv ((p1 &&& (2147483647 : Int32)) % (6 : Int32)), rv a, iv (1 : Int32)] [(.int (1 : Int32)), (.int ev)])
    refine Goes.step ?_ (fun _ k => XS.icmpNo X3.here hx rfl (hb hby at_31) rfl (teq he).2 k)
    show Goes p e below _ (sF T3 m 34 #[iv p1, iv ((p1 &&& (2147483647 : Int32)) % (6 : Int32)), rv a, iv (1 : Int32)] [])
    refine Goes.step ?_ (fun _ k => XS.iconst X3.here hx rfl (hb hby at_34) k)
    show Goes p e below _ (sF T3 m 35 #[iv p1, iv ((p1 &&& (2147483647 : Int32)) % (6 : Int32)), rv a, iv (1 : Int32)] [(.int (1 : Int32))])
    refine Goes.step ?_ (fun _ k => XS.goto X3.here hx rfl (pc0 := 35) (pc' := 39) rfl (hb hby at_35) (by decide) (by decide) k)
    show Goes p e below _ (sF T3 m 39 #[iv p1, iv ((p1 &&& (2147483647 : Int32)) % (6 : Int32)), rv a, iv (1 : Int32)] [(.int (1 : Int32))])
    refine own_out X3 hx hlk hret rfl (Or.inl ⟨rfl, by simp, _, rfl⟩) (hb hby at_39) ?_ (by decide) (by decide)
    show Q0 Z h0 n0 _ T3.heap _
    rw [e3]
    exact ⟨rfl, N3⟩
  · show Goes p e below _ (sF s₁ m 0 #[iv p1, .unset, .unset, .unset] [])
    refine Goes.step ?_ (fun _ k => XS.iloadN X0.here hx rfl (hb hby at_0) rfl  k)
    show Goes p e below _ (sF s₁ m 1 #[iv p1, .unset, .unset, .unset] [(.int p1)])
    refine Goes.step ?_ (fun _ k => X0.ldcI hx hown (mvT hZ (hw _ (List.mem_of_getElem? (i := 0) rfl))) rfl (hb hby at_1) k)
    show Goes p e below _ (sF s₁ m 3 #[iv p1, .unset, .unset, .unset] [(.int (2147483647 : Int32)), (.int p1)])
    refine Goes.step ?_ (fun _ k => XS.iand X0.here hx rfl (hb hby at_3) rfl k)
    show Goes p e below _ (sF s₁ m 4 #[iv p1, .unset, .unset, .unset] [(.int (p1 &&& (2147483647 : Int32)))])
    refine Goes.step ?_ (fun _ k => XS.bipush X0.here hx rfl (hb hby at_4) k)
    show Goes p e below _ (sF s₁ m 6 #[iv p1, .unset, .unset, .unset] [(.int (6 : Int32)), (.int (p1 &&& (2147483647 : Int32)))])
    refine Goes.step ?_ (fun _ k => iremM X0 hx rfl (hb hby at_6) rfl (by decide) k)
    show Goes p e below _ (sF s₁ m 7 #[iv p1, .unset, .unset, .unset] [(.int ((p1 &&& (2147483647 : Int32)) % (6 : Int32)))])
    refine Goes.step ?_ (fun _ k => XS.istoreN X0.here hx rfl (hb hby at_7) rfl (l' := #[iv p1, iv ((p1 &&& (2147483647 : Int32)) % (6 : Int32)), .unset, .unset]) rfl k)
    show Goes p e below _ (sF s₁ m 8 #[iv p1, iv ((p1 &&& (2147483647 : Int32)) % (6 : Int32)), .unset, .unset] [])
    refine Goes.step ?_ (fun _ k => XS.iloadN X0.here hx rfl (hb hby at_8) rfl  k)
    show Goes p e below _ (sF s₁ m 9 #[iv p1, iv ((p1 &&& (2147483647 : Int32)) % (6 : Int32)), .unset, .unset] [(.int ((p1 &&& (2147483647 : Int32)) % (6 : Int32)))])
    obtain ⟨_, _, ⟨T4, L4, k4, n4⟩, -, X4, ⟨Lc4, hQ4, l4, y4, z4⟩, st4⟩ := Jvm.LawKit.callS X0 hx (y := (⟨"com/example/kairos/kairos/job/JobStatusIsEndPinLaw", "pick", "(I)Lcom/example/kairos/kairos/job/JobStatus;"⟩ : MethodName)) hown (mvT hZ (hw _ (List.mem_of_getElem? (i := 1) rfl))) (mvT hZ (hw _ (List.mem_of_getElem? (i := 2) rfl))) (mvT hZ (hw _ (List.mem_of_getElem? (i := 3) rfl))) (mvT hZ (hw _ (List.mem_of_getElem? (i := 4) rfl))) (by decide) (backOf (W := 0) (rm1 l Z a0 hw [] ((p1 &&& (2147483647 : Int32)) % (6 : Int32)) w0 w1 w2 w3 w4 w5 a h0 n0 Z0 S_PREP S_RUNNING S_SUSPENDED S_SUCCEEDED S_KILLED S_FAILED hpick) hZ (hw _ (List.mem_of_getElem? (i := 4) rfl)) (hw _ (List.mem_of_getElem? (i := 3) rfl)) (by decide) (by decide)) (g := (mkF m 9 #[iv p1, iv ((p1 &&& (2147483647 : Int32)) % (6 : Int32)), .unset, .unset] [(.int ((p1 &&& (2147483647 : Int32)) % (6 : Int32)))])) rfl (by rw [hml]; rfl) (argsL := [(.int ((p1 &&& (2147483647 : Int32)) % (6 : Int32)))]) (rest := []) (lenOf pd__28I_29Lcom_2fexample_2fkairos_2fkairos_2fjob_2fJobStatus_3b rfl) rfl (by show 2 * 0 + _ ≤ _; exact Nat.le_of_eq rfl) (hb hby at_9) (fun _ _ => ⟨rfl, e0, (by decide : 0 + 0 ≤ _), (by decide : 0 + 0 ≤ _)⟩)
    dsimp only [Pt.U, Pt.locs, Pt.cells, Pt.slots] at X4 l4 y4 z4 st4 hQ4
    subst l4 y4 z4
    obtain ⟨rfl, N4q, e4⟩ := hQ4
    have N4 := Fr.app N0 N4q
    refine Goes.step ?_ st4
    show Goes p e below _ (sF T4 m 12 #[iv p1, iv ((p1 &&& (2147483647 : Int32)) % (6 : Int32)), .unset, .unset] [(.ref a)])
    refine Goes.step ?_ (fun _ k => XS.astoreN X4.here hx rfl (hb hby at_12) rfl rfl (l' := #[iv p1, iv ((p1 &&& (2147483647 : Int32)) % (6 : Int32)), rv a, .unset]) rfl k)
    show Goes p e below _ (sF T4 m 13 #[iv p1, iv ((p1 &&& (2147483647 : Int32)) % (6 : Int32)), rv a, .unset] [])
    refine Goes.step ?_ (fun _ k => XS.iloadN X4.here hx rfl (hb hby at_13) rfl  k)
    show Goes p e below _ (sF T4 m 14 #[iv p1, iv ((p1 &&& (2147483647 : Int32)) % (6 : Int32)), rv a, .unset] [(.int ((p1 &&& (2147483647 : Int32)) % (6 : Int32)))])
    obtain ⟨_, _, ⟨T5, L5, k5, n5⟩, -, X5, ⟨Lc5, hQ5, l5, y5, z5⟩, st5⟩ := Jvm.LawKit.callS X4 hx (y := (⟨"com/example/kairos/kairos/job/JobStatusIsEndPinLaw", "successors", "(I)I"⟩ : MethodName)) hown (mvT hZ (hw _ (List.mem_of_getElem? (i := 8) rfl))) (mvT hZ (hw _ (List.mem_of_getElem? (i := 9) rfl))) (mvT hZ (hw _ (List.mem_of_getElem? (i := 3) rfl))) (mvT hZ (hw _ (List.mem_of_getElem? (i := 10) rfl))) (by decide) (backOf (W := 0) (rm2 l Z a0 hw [] ((p1 &&& (2147483647 : Int32)) % (6 : Int32)) sv h0 n0 Z0 hsucc) hZ (hw _ (List.mem_of_getElem? (i := 10) rfl)) (hw _ (List.mem_of_getElem? (i := 3) rfl)) (by decide) (by decide)) (g := (mkF m 14 #[iv p1, iv ((p1 &&& (2147483647 : Int32)) % (6 : Int32)), rv a, .unset] [(.int ((p1 &&& (2147483647 : Int32)) % (6 : Int32)))])) rfl (by rw [hml]; rfl) (argsL := [(.int ((p1 &&& (2147483647 : Int32)) % (6 : Int32)))]) (rest := []) (lenOf pd__28I_29I rfl) rfl (by show 2 * 0 + _ ≤ _; exact Nat.le_of_eq rfl) (hb hby at_14) (fun _ _ => ⟨rfl, e4, (by decide : 0 + 0 ≤ _), (by decide : 0 + 0 ≤ _)⟩)
    dsimp only [Pt.U, Pt.locs, Pt.cells, Pt.slots] at X5 l5 y5 z5 st5 hQ5
    subst l5 y5 z5
    obtain ⟨rfl, N5q, e5⟩ := hQ5
    have N5 := Fr.app N4 N5q
    refine Goes.step ?_ st5
    show Goes p e below _ (sF T5 m 17 #[iv p1, iv ((p1 &&& (2147483647 : Int32)) % (6 : Int32)), rv a, .unset] [(.int sv)])
    refine Goes.step ?_ (fun _ k => XS.ifYes X5.here hx rfl (pc0 := 17) (pc' := 24) rfl (hb hby at_17) rfl ((if0 _ _).trans (feq hs).2) (by decide) (by decide) k)
    show Goes p e below _ (sF T5 m 24 #[iv p1, iv ((p1 &&& (2147483647 : Int32)) % (6 : Int32)), rv a, .unset] [])
    refine Goes.step ?_ (fun _ k => XS.iconst X5.here hx rfl (hb hby at_24) k)
    show Goes p e below _ (sF T5 m 25 #[iv p1, iv ((p1 &&& (2147483647 : Int32)) % (6 : Int32)), rv a, .unset] [(.int (0 : Int32))])
    refine Goes.step ?_ (fun _ k => XS.istoreN X5.here hx rfl (hb hby at_25) rfl (l' := #[iv p1, iv ((p1 &&& (2147483647 : Int32)) % (6 : Int32)), rv a, iv (0 : Int32)]) rfl k)
    show Goes p e below _ (sF T5 m 26 #[iv p1, iv ((p1 &&& (2147483647 : Int32)) % (6 : Int32)), rv a, iv (0 : Int32)] [])
    refine Goes.step ?_ (fun _ k => XS.aloadN X5.here hx rfl (hb hby at_26) rfl rfl k)
    show Goes p e below _ (sF T5 m 27 #[iv p1, iv ((p1 &&& (2147483647 : Int32)) % (6 : Int32)), rv a, iv (0 : Int32)] [(.ref a)])
    obtain ⟨cq6, kq6, q6a, q6b, q6c⟩ := isOf hZ e5 E_a
    obtain ⟨_, _, ⟨T6, L6, k6, n6⟩, -, X6, ⟨Lc6, hQ6, l6, y6, z6⟩, st6⟩ := X5.virtualBack hx (y := (⟨"com/example/kairos/kairos/job/JobStatus", "isEnd", "()Z"⟩ : MethodName)) (z := (⟨"com/example/kairos/kairos/job/JobStatus", "isEnd", "()Z"⟩ : MethodName)) hown (mvT hZ (hw _ (List.mem_of_getElem? (i := 11) rfl))) (mvT hZ (hw _ (List.mem_of_getElem? (i := 12) rfl))) (notFace_of_selects (args := #[]) (mvT hZ (hw _ (List.mem_of_getElem? (i := 14) rfl)))) (mvT hZ (hw _ (List.mem_of_getElem? (i := 14) rfl))) (mvT hZ (hw _ (List.mem_of_getElem? (i := 13) rfl))) (by decide) (backOf (W := 0) (rm3 l Z a0 hw [] a w3 w4 w5 ev h0 n0 Z0 S_SUCCEEDED S_KILLED S_FAILED hend) hZ (hw _ (List.mem_of_getElem? (i := 15) rfl)) (hw _ (List.mem_of_getElem? (i := 6) rfl)) (by decide) (by decide)) q6a q6c (g := (mkF m 27 #[iv p1, iv ((p1 &&& (2147483647 : Int32)) % (6 : Int32)), rv a, iv (0 : Int32)] [(.ref a)])) rfl (by rw [hml]; rfl) (Steps.refl _) (argsL := []) (rest := []) (lenOf pd__28_29Z rfl) rfl (by show 2 * 0 + _ ≤ _; exact Nat.le_of_eq rfl) (hb hby at_27) (fun _ _ => ⟨rfl, e5, (by decide : 0 + 0 ≤ _), (by decide : 0 + 0 ≤ _)⟩)
    dsimp only [Pt.U, Pt.locs, Pt.cells, Pt.slots] at X6 l6 y6 z6 st6 hQ6
    subst l6 y6 z6
    obtain ⟨rfl, N6q, e6⟩ := hQ6
    have N6 := Fr.app N5 N6q
    refine Goes.step ?_ (fun _ k => st6.trans k)
    show Goes p e below _ (sF T6 m 30 #[iv p1, iv ((p1 &&& (2147483647 : Int32)) % (6 : Int32)), rv a, iv (0 : Int32)] [(.int ev)])
    refine Goes.step ?_ (fun _ k => XS.iloadN X6.here hx rfl (hb hby at_30) rfl  k)
    show Goes p e below _ (sF T6 m 31 #[iv p1, iv ((p1 &&& (2147483647 : Int32)) % (6 : Int32)), rv a, iv (0 : Int32)] [(.int (0 : Int32)), (.int ev)])
    refine Goes.step ?_ (fun _ k => XS.icmpNo X6.here hx rfl (hb hby at_31) rfl (teq he).2 k)
    show Goes p e below _ (sF T6 m 34 #[iv p1, iv ((p1 &&& (2147483647 : Int32)) % (6 : Int32)), rv a, iv (0 : Int32)] [])
    refine Goes.step ?_ (fun _ k => XS.iconst X6.here hx rfl (hb hby at_34) k)
    show Goes p e below _ (sF T6 m 35 #[iv p1, iv ((p1 &&& (2147483647 : Int32)) % (6 : Int32)), rv a, iv (0 : Int32)] [(.int (1 : Int32))])
    refine Goes.step ?_ (fun _ k => XS.goto X6.here hx rfl (pc0 := 35) (pc' := 39) rfl (hb hby at_35) (by decide) (by decide) k)
    show Goes p e below _ (sF T6 m 39 #[iv p1, iv ((p1 &&& (2147483647 : Int32)) % (6 : Int32)), rv a, iv (0 : Int32)] [(.int (1 : Int32))])
    refine own_out X6 hx hlk hret rfl (Or.inl ⟨rfl, by simp, _, rfl⟩) (hb hby at_39) ?_ (by decide) (by decide)
    show Q0 Z h0 n0 _ T6.heap _
    rw [e6]
    exact ⟨rfl, N6⟩
theorem own_six (x : Int32) : (x &&& (2147483647 : Int32)) % (6 : Int32) = 0 ∨ (x &&& (2147483647 : Int32)) % (6 : Int32) = 1 ∨ (x &&& (2147483647 : Int32)) % (6 : Int32) = 2 ∨ (x &&& (2147483647 : Int32)) % (6 : Int32) = 3 ∨ (x &&& (2147483647 : Int32)) % (6 : Int32) = 4 ∨ (x &&& (2147483647 : Int32)) % (6 : Int32) = 5 := by
  have h1 := c_mask x 2147483647 31 (by decide) (by decide)
  have h2 := (c_irem (x &&& (2147483647 : Int32)) 6 6 (by decide)).1 (by rw [h1]; omega)
  simp only [← Int32.toInt_inj]
  rw [h2]
  have e0 : (0 : Int32).toInt = 0 := by decide
  have e1 : (1 : Int32).toInt = 1 := by decide
  have e2 : (2 : Int32).toInt = 2 := by decide
  have e3 : (3 : Int32).toInt = 3 := by decide
  have e4 : (4 : Int32).toInt = 4 := by decide
  have e5 : (5 : Int32).toInt = 5 := by decide
  rw [e0, e1, e2, e3, e4, e5]
  omega
theorem own_eqI {args : Array Value} {first s : State} {o : Option Outcome} {idx : List Nat} {t : Term} {n : Int32} (h : (Jvm.Cond.eq t (.int n)).value args first o s idx = some true) : t.eval args first o idx s = some (.int n) := by
  cases ht : t.eval args first o idx s with
  | none => simp [Cond.value, ht] at h
  | some v => cases v <;> simp [Cond.value, Term.eval, ht] at h ⊢ <;> exact h
theorem own_ne {s : State} {a b : Addr} {C n d : String} {x y : Int32} (h1 : s.fieldOf? a C n d = some (.int x)) (h2 : s.fieldOf? b C n d = some (.int y)) (hne : x ≠ y) : a ≠ b := fun e => by
  subst e; rw [h1] at h2; exact hne (Value.int.inj (Option.some.inj h2))
set_option maxRecDepth 65536 in
set_option maxHeartbeats 40000000 in
theorem comes_1 {Post : Tables → Env → Array Value → State → Outcome → State → Prop} (hpost : ∀ tb e args s v u, (limb_1_1.after args s (.returned v) u = true ∧ limb_1_2.after args s (.returned v) u = true ∧ True) → FrameEnd s (.returned v) u (Jvm.fieldLocs frame_1_writes args s ++ Jvm.arrayLocs frame_1_arrays args s ++ Jvm.staticLocs frame_1_statics s) 0 0 → Post tb e args s (.returned v) u) :
    ArmFor flags0 classFile x code maxLocals ret World_1 tables_1 room_1 Calls_1 rest_1 Pre_1 Post := by
  intro l hfl _ _ p e ha hc hk s m args below hf hA hF happ hP
  obtain ⟨hcalls, hrest, hpre⟩ := hP
  obtain ⟨-, -, -, hnamed, -, -, -, hat⟩ := (Spec.applies_iff hf).mp happ
  obtain ⟨hg, hn⟩ := and_e (Cond.before_iff.mp (show (Jvm.Cond.and given_1 narrow_1).before args s = true from hpre))
  obtain ⟨hcnt, g0⟩ := and_e hg
  have ga0 := g0
  obtain ⟨w0, rfl⟩ : ∃ w0 : Value, args = #[w0] := by
    have hs : args.size = 1 := by simpa [Cond.value, given_1] using hcnt
    obtain ⟨L⟩ := args
    match L, hs with
    | [w0], _ => exact ⟨w0, rfl⟩
  have hw := fun d (hd : d ∈ tables_1) => atoms_spec (ws := Jvm.Cond.code x code maxLocals ret :: tables_1) hat d (List.mem_cons_of_mem _ hd)
  have hfit : Fit s := fun {y c} hc i hi => by
    obtain ⟨ha, rfl⟩ := Array.getElem?_eq_some_iff.mp hc
    have q := List.all_eq_true.mp ((Array.all_eq_true_iff_forall_mem.mp hF) _ (Array.getElem_mem ha)) i (List.mem_range.mpr hi)
    simpa [Array.getElem?_eq_getElem hi] using q
  obtain ⟨i0, ei0⟩ := is_v ga0
  obtain rfl : w0 = (.int i0) := Option.some.inj ei0
  obtain ⟨xPREP, hn0⟩ := and_e hn
  obtain ⟨xSUCCEEDED, hn1⟩ := and_e hn0
  obtain ⟨oPREP, hn2⟩ := and_e hn1
  obtain ⟨oSUCCEEDED, hn3⟩ := and_e hn2
  obtain ⟨xKILLED, hn4⟩ := and_e hn3
  obtain ⟨oKILLED, hn5⟩ := and_e hn4
  obtain ⟨xFAILED, hn6⟩ := and_e hn5
  obtain ⟨oFAILED, hn7⟩ := and_e hn6
  obtain ⟨xSUSPENDED, hn8⟩ := and_e hn7
  obtain ⟨oSUSPENDED, hn9⟩ := and_e hn8
  obtain ⟨xRUNNING, hn10⟩ := and_e hn9
  have oRUNNING := hn10
  obtain ⟨w0, vPREP⟩ := exa_v xPREP
  have SPREP := Sta.start vPREP (Or.inr ⟨(hw _ (List.mem_of_getElem? (i := 6) rfl)), (hw _ (List.mem_of_getElem? (i := 7) rfl))⟩)
  have EPREP := Exa.start vPREP xPREP
  have fPREP := (fld_at vPREP).symm.trans (own_eqI oPREP)
  obtain ⟨w1, vRUNNING⟩ := exa_v xRUNNING
  have SRUNNING := Sta.start vRUNNING (Or.inr ⟨(hw _ (List.mem_of_getElem? (i := 6) rfl)), (hw _ (List.mem_of_getElem? (i := 26) rfl))⟩)
  have ERUNNING := Exa.start vRUNNING xRUNNING
  have fRUNNING := (fld_at vRUNNING).symm.trans (own_eqI oRUNNING)
  obtain ⟨w2, vSUSPENDED⟩ := exa_v xSUSPENDED
  have SSUSPENDED := Sta.start vSUSPENDED (Or.inr ⟨(hw _ (List.mem_of_getElem? (i := 6) rfl)), (hw _ (List.mem_of_getElem? (i := 24) rfl))⟩)
  have ESUSPENDED := Exa.start vSUSPENDED xSUSPENDED
  have fSUSPENDED := (fld_at vSUSPENDED).symm.trans (own_eqI oSUSPENDED)
  obtain ⟨w3, vSUCCEEDED⟩ := exa_v xSUCCEEDED
  have SSUCCEEDED := Sta.start vSUCCEEDED (Or.inr ⟨(hw _ (List.mem_of_getElem? (i := 6) rfl)), (hw _ (List.mem_of_getElem? (i := 17) rfl))⟩)
  have ESUCCEEDED := Exa.start vSUCCEEDED xSUCCEEDED
  have fSUCCEEDED := (fld_at vSUCCEEDED).symm.trans (own_eqI oSUCCEEDED)
  obtain ⟨w4, vKILLED⟩ := exa_v xKILLED
  have SKILLED := Sta.start vKILLED (Or.inr ⟨(hw _ (List.mem_of_getElem? (i := 6) rfl)), (hw _ (List.mem_of_getElem? (i := 19) rfl))⟩)
  have EKILLED := Exa.start vKILLED xKILLED
  have fKILLED := (fld_at vKILLED).symm.trans (own_eqI oKILLED)
  obtain ⟨w5, vFAILED⟩ := exa_v xFAILED
  have SFAILED := Sta.start vFAILED (Or.inr ⟨(hw _ (List.mem_of_getElem? (i := 6) rfl)), (hw _ (List.mem_of_getElem? (i := 21) rfl))⟩)
  have EFAILED := Exa.start vFAILED xFAILED
  have fFAILED := (fld_at vFAILED).symm.trans (own_eqI oFAILED)
  have ne03 := own_ne fPREP fSUCCEEDED (by decide)
  have ne04 := own_ne fPREP fKILLED (by decide)
  have ne05 := own_ne fPREP fFAILED (by decide)
  have ne13 := own_ne fRUNNING fSUCCEEDED (by decide)
  have ne14 := own_ne fRUNNING fKILLED (by decide)
  have ne15 := own_ne fRUNNING fFAILED (by decide)
  have ne23 := own_ne fSUSPENDED fSUCCEEDED (by decide)
  have ne24 := own_ne fSUSPENDED fKILLED (by decide)
  have ne25 := own_ne fSUSPENDED fFAILED (by decide)
  have ne34 := own_ne fSUCCEEDED fKILLED (by decide)
  have ne35 := own_ne fSUCCEEDED fFAILED (by decide)
  have ne45 := own_ne fKILLED fFAILED (by decide)
  obtain ⟨a, sv, ev, Ea, hp1, hs1, he1, hc1⟩ : ∃ (a : Addr) (sv ev : Int32), Exa s s.heap a "com/example/kairos/kairos/job/JobStatus" ∧ pickV ((i0 &&& (2147483647 : Int32)) % (6 : Int32)) w0 w1 w2 w3 w4 w5 = a ∧ succV ((i0 &&& (2147483647 : Int32)) % (6 : Int32)) = sv ∧ endV a w3 w4 w5 = ev ∧ ((sv = 0 ∧ ev = 1) ∨ (¬ sv = 0 ∧ ev = 0)) := by
    rcases own_six i0 with q | q | q | q | q | q <;> rw [q]
    · exact ⟨w0, 2, 0, EPREP, by simp [pickV], by simp [succV], by simp [endV, ne03, ne04, ne05], by decide⟩
    · exact ⟨w1, 4, 0, ERUNNING, by simp [pickV], by simp [succV], by simp [endV, ne13, ne14, ne15], by decide⟩
    · exact ⟨w2, 2, 0, ESUSPENDED, by simp [pickV], by simp [succV], by simp [endV, ne23, ne24, ne25], by decide⟩
    · exact ⟨w3, 0, 1, ESUCCEEDED, by simp [pickV], by simp [succV], by simp [endV, ne34, ne35], by decide⟩
    · exact ⟨w4, 0, 1, EKILLED, by simp [pickV], by simp [succV], by simp [endV, (Ne.symm ne34), ne45], by decide⟩
    · exact ⟨w5, 0, 1, EFAILED, by simp [pickV], by simp [succV], by simp [endV, (Ne.symm ne35), (Ne.symm ne45)], by decide⟩
  obtain ⟨n, o, h1, h2, h3, _, L, rfl, ⟨rfl, N⟩, hq⟩ := rm0 l s _ hw tables_1 i0 w0 w1 w2 w3 w4 w5 a sv ev s.heap s.heap.size (Nat.le_refl _) SPREP SRUNNING SSUSPENDED SSUCCEEDED SKILLED SFAILED Ea hp1 hs1 he1 hc1 p e ha hc hk s m _ below hf ((Spec.applies_iff_loose hf).mp happ).1 ⟨rfl, State.Warmed39.refl s, rfl⟩ trivial
  refine ⟨n, _, h1, h2, h3, hpost _ _ _ _ _ _ ⟨Cond.after_iff.mpr rfl, Cond.after_iff.mpr (eq_i res_at (Term.int_eval (1)) rfl), trivial⟩ ⟨hq.1, hq.2.1, (hq.2.2.sift fun y hy => Or.inr (N y hy)).mono (by decide) (by decide)⟩⟩
theorem main_1_1 : Claimed_1_1 := comes_1 fun _ _ _ _ _ _ h hF => ⟨h.1, hF⟩
theorem main_1_2 : Claimed_1_2 := comes_1 fun _ _ _ _ _ _ h hF => ⟨h.2.1, hF⟩
end Jvm.Pilot.@@N@@
namespace Jvm.Pilot.@@N@@
open Jvm Jvm.ClassFile Sem Op Lib Jvm.Free Jvm.Stand Jvm.Pilot.@@N@@.Jvm.D
/-! MADE BY PROGRAM (witnessworld.py) out of the Statement's table words and the real class files: 12 classes; the members and pool entries that the words name. The judged class is class 1, her method 1. -/
namespace start1
open Jvm.ClassFile
def u (s : String) : CpInfo := .utf8 (stringToUtf16 s)
/-- a pool by its gaps: so many unusable entries, then the entry; so many at the end -/
def gap : Nat → List CpInfo → List CpInfo
  | 0, r => r
  | n + 1, r => .unusable :: gap n r
def poolList (es : List (Nat × CpInfo)) (last : Nat) : List CpInfo := es.foldr (fun e r => gap e.1 (e.2 :: r)) (gap last [])
def pool (es : List (Nat × CpInfo)) (last : Nat) : Array CpInfo := ⟨poolList es last⟩
def fileOf (pool : Array CpInfo) (this : Nat) (attrs : Array Attribute := #[]) (ms : Array MethodInfo := #[]) (fl : Nat := 33) (sup : Nat := 0) (ifs : Array Nat := #[]) (fds : Array FieldInfo := #[]) : ClassFile where
  minorVersion := 0
  majorVersion := 65
  constantPool := pool
  accessFlags := fl
  thisClass := this
  superClass := sup
  interfaces := ifs
  fields := fds
  methods := ms
  attributes := attrs
def plain (name : String) (sup : Option ClassId) : Class where
  name := name
  kind := .ordinary
  loader := none
  accessFlags := 33
  super := sup
  interfaces := #[]
  cf := none
  fields := #[]
  methods := #[]
  instanceTypes := #[]
  staticTypes := #[]
  resolved := #[]
  callSites := []
  init := .initialized
  statics := none
  mirror := none

def pool0 : Array CpInfo := pool [(5, u "<init>"), (0, u "()V"), (1, .class_ 10), (1, u "java/lang/Object")] 113

def k0m0 : Method := { name := "<init>", desc := "()V", sig := { parameters := [], returnType := none }, accessFlags := 1, code := none }
/-- java/lang/Object -/
def k0 : Class := { plain "java/lang/Object" none with
  accessFlags := 33
  interfaces := #[]
  cf := some (fileOf pool0 8 #[] #[{ accessFlags := 1, nameIndex := 5, descriptorIndex := 6, attributes := #[] }] 33 0 #[] #[])
  fields := #[]
  methods := #[k0m0]
  instanceTypes := #[]
  staticTypes := #[]
  resolved := Array.replicate 124 none
  statics := none }

def pool1 : Array CpInfo := pool [(2, .class_ 4), (1, u "java/lang/Object"), (0, u "<init>"), (0, u "()V"), (0, .integer 2147483647), (0, .methodref 9 10), (0, .class_ 11), (0, .nameAndType 12 13), (0, u "com/example/kairos/kairos/job/JobStatusIsEndPinLaw"), (0, u "pick"), (0, u "(I)Lcom/example/kairos/kairos/job/JobStatus;"), (0, .methodref 9 15), (0, .nameAndType 16 17), (0, u "successors"), (0, u "(I)I"), (0, .methodref 19 20), (0, .class_ 21), (0, .nameAndType 22 23), (0, u "com/example/kairos/kairos/job/JobStatus"), (0, u "isEnd"), (0, u "()Z"), (0, .fieldref 19 25), (0, .nameAndType 26 27), (0, u "PREP"), (0, u "Lcom/example/kairos/kairos/job/JobStatus;"), (0, .fieldref 19 29), (0, .nameAndType 30 27), (0, u "RUNNING"), (0, .fieldref 19 32), (0, .nameAndType 33 27), (0, u "SUSPENDED"), (0, .fieldref 19 35), (0, .nameAndType 36 27), (0, u "SUCCEEDED"), (0, .fieldref 19 38), (0, .nameAndType 39 27), (0, u "KILLED"), (0, .fieldref 19 41), (0, .nameAndType 42 27), (0, u "FAILED"), (2, u "law"), (0, u "(I)Z")] 3

def k1m0 : Method := { name := "<init>", desc := "()V", sig := { parameters := [], returnType := none }, accessFlags := 1, code := none }
def k1c1 : Code := { maxStack := 2, maxLocals := 4, code := code, exceptionTable := #[], attributes := #[] }
def k1m1 : Method := { name := "law", desc := "(I)Z", sig := { parameters := [.int], returnType := some .boolean }, accessFlags := 9, code := some k1c1 }
def k1c2 : Code := { maxStack := 2, maxLocals := 1, code := method_3_code, exceptionTable := #[], attributes := #[] }
def k1m2 : Method := { name := "pick", desc := "(I)Lcom/example/kairos/kairos/job/JobStatus;", sig := { parameters := [.int], returnType := some (.object "com/example/kairos/kairos/job/JobStatus") }, accessFlags := 10, code := some k1c2 }
def k1c3 : Code := { maxStack := 2, maxLocals := 1, code := method_4_code, exceptionTable := #[], attributes := #[] }
def k1m3 : Method := { name := "successors", desc := "(I)I", sig := { parameters := [.int], returnType := some .int }, accessFlags := 10, code := some k1c3 }
/-- com/example/kairos/kairos/job/JobStatusIsEndPinLaw -/
def k1 : Class := { plain "com/example/kairos/kairos/job/JobStatusIsEndPinLaw" (some 0) with
  accessFlags := 49
  interfaces := #[]
  cf := some (fileOf pool1 9 #[] #[{ accessFlags := 1, nameIndex := 5, descriptorIndex := 6, attributes := #[] }, { accessFlags := 9, nameIndex := 45, descriptorIndex := 46, attributes := #[] }, { accessFlags := 10, nameIndex := 12, descriptorIndex := 13, attributes := #[] }, { accessFlags := 10, nameIndex := 16, descriptorIndex := 17, attributes := #[] }] 49 2 #[] #[])
  fields := #[]
  methods := #[k1m0, k1m1, k1m2, k1m3]
  instanceTypes := #[]
  staticTypes := #[]
  resolved := Array.replicate 50 none
  statics := none }

def pool2 : Array CpInfo := pool [(1, .class_ 2), (0, u "java/lang/constant/Constable"), (0, .class_ 4), (0, u "java/lang/Object")] 6

/-- java/lang/constant/Constable -/
def k2 : Class := { plain "java/lang/constant/Constable" (some 0) with
  accessFlags := 1537
  interfaces := #[]
  cf := some (fileOf pool2 1 #[] #[] 1537 3 #[] #[])
  fields := #[]
  methods := #[]
  instanceTypes := #[]
  staticTypes := #[]
  resolved := Array.replicate 11 none
  statics := none }

def pool3 : Array CpInfo := pool [(1, .class_ 2), (0, u "java/lang/Comparable"), (0, .class_ 4), (0, u "java/lang/Object")] 7

/-- java/lang/Comparable -/
def k3 : Class := { plain "java/lang/Comparable" (some 0) with
  accessFlags := 1537
  interfaces := #[]
  cf := some (fileOf pool3 1 #[] #[] 1537 3 #[] #[])
  fields := #[]
  methods := #[]
  instanceTypes := #[]
  staticTypes := #[]
  resolved := Array.replicate 12 none
  statics := none }

def pool4 : Array CpInfo := pool [(1, .class_ 2), (0, u "java/io/Serializable"), (0, .class_ 4), (0, u "java/lang/Object")] 2

/-- java/io/Serializable -/
def k4 : Class := { plain "java/io/Serializable" (some 0) with
  accessFlags := 1537
  interfaces := #[]
  cf := some (fileOf pool4 1 #[] #[] 1537 3 #[] #[])
  fields := #[]
  methods := #[]
  instanceTypes := #[]
  staticTypes := #[]
  resolved := Array.replicate 7 none
  statics := none }

def pool5 : Array CpInfo := pool [(2, .class_ 4), (1, u "java/lang/Enum"), (0, u "name"), (0, u "Ljava/lang/String;"), (2, u "ordinal"), (0, u "I"), (1, .class_ 14), (1, u "java/lang/Object"), (4, u "hash"), (86, .class_ 108), (1, u "java/lang/Enum$EnumDesc"), (2, .class_ 112), (0, u "java/lang/constant/Constable"), (0, .class_ 114), (0, u "java/lang/Comparable"), (0, .class_ 116), (0, u "java/io/Serializable")] 87

/-- java/lang/Enum -/
def k5 : Class := { plain "java/lang/Enum" (some 0) with
  accessFlags := 1057
  interfaces := #[2, 3, 4]
  cf := some (fileOf pool5 2 #[.nestMembers #[106]] #[] 1057 12 #[111, 113, 115] #[{ accessFlags := 18, nameIndex := 5, descriptorIndex := 6, attributes := #[] }, { accessFlags := 18, nameIndex := 9, descriptorIndex := 10, attributes := #[] }, { accessFlags := 2, nameIndex := 19, descriptorIndex := 10, attributes := #[] }])
  fields := #[{ name := "name", type := (.object "java/lang/String"), accessFlags := 18, slot := 0, constantValue := 0 }, { name := "ordinal", type := .int, accessFlags := 18, slot := 1, constantValue := 0 }, { name := "hash", type := .int, accessFlags := 2, slot := 2, constantValue := 0 }]
  methods := #[]
  instanceTypes := #[(.object "java/lang/String"), .int, .int]
  staticTypes := #[]
  resolved := Array.replicate 204 none
  statics := none }

def pool6 : Array CpInfo := pool [(1, .class_ 2), (0, u "com/example/kairos/kairos/job/JobStatus"), (2, u "PREP"), (0, u "Lcom/example/kairos/kairos/job/JobStatus;"), (2, u "RUNNING"), (2, u "SUSPENDED"), (0, .fieldref 1 14), (0, .nameAndType 15 6), (0, u "SUCCEEDED"), (0, .fieldref 1 17), (0, .nameAndType 18 6), (0, u "KILLED"), (0, .fieldref 1 20), (0, .nameAndType 21 6), (0, u "FAILED"), (2, u "$VALUES"), (0, u "[Lcom/example/kairos/kairos/job/JobStatus;"), (6, .class_ 34), (1, u "java/lang/Enum"), (24, u "isEnd"), (0, u "()Z")] 5

def k6c0 : Code := { maxStack := 2, maxLocals := 1, code := prog_26_method_4_code, exceptionTable := #[], attributes := #[] }
def k6m0 : Method := { name := "isEnd", desc := "()Z", sig := { parameters := [], returnType := some .boolean }, accessFlags := 1, code := some k6c0 }
/-- com/example/kairos/kairos/job/JobStatus -/
def k6 : Class := { plain "com/example/kairos/kairos/job/JobStatus" (some 5) with
  accessFlags := 16433
  interfaces := #[]
  cf := some (fileOf pool6 1 #[] #[{ accessFlags := 1, nameIndex := 59, descriptorIndex := 60, attributes := #[] }] 16433 32 #[] #[{ accessFlags := 16409, nameIndex := 5, descriptorIndex := 6, attributes := #[] }, { accessFlags := 16409, nameIndex := 9, descriptorIndex := 6, attributes := #[] }, { accessFlags := 16409, nameIndex := 12, descriptorIndex := 6, attributes := #[] }, { accessFlags := 16409, nameIndex := 15, descriptorIndex := 6, attributes := #[] }, { accessFlags := 16409, nameIndex := 18, descriptorIndex := 6, attributes := #[] }, { accessFlags := 16409, nameIndex := 21, descriptorIndex := 6, attributes := #[] }, { accessFlags := 4122, nameIndex := 24, descriptorIndex := 25, attributes := #[] }])
  fields := #[{ name := "PREP", type := (.object "com/example/kairos/kairos/job/JobStatus"), accessFlags := 16409, slot := 0, constantValue := 0 }, { name := "RUNNING", type := (.object "com/example/kairos/kairos/job/JobStatus"), accessFlags := 16409, slot := 1, constantValue := 0 }, { name := "SUSPENDED", type := (.object "com/example/kairos/kairos/job/JobStatus"), accessFlags := 16409, slot := 2, constantValue := 0 }, { name := "SUCCEEDED", type := (.object "com/example/kairos/kairos/job/JobStatus"), accessFlags := 16409, slot := 3, constantValue := 0 }, { name := "KILLED", type := (.object "com/example/kairos/kairos/job/JobStatus"), accessFlags := 16409, slot := 4, constantValue := 0 }, { name := "FAILED", type := (.object "com/example/kairos/kairos/job/JobStatus"), accessFlags := 16409, slot := 5, constantValue := 0 }, { name := "$VALUES", type := (.array (.object "com/example/kairos/kairos/job/JobStatus")), accessFlags := 4122, slot := 6, constantValue := 0 }]
  methods := #[k6m0]
  instanceTypes := #[(.object "java/lang/String"), .int, .int]
  staticTypes := #[(.object "com/example/kairos/kairos/job/JobStatus"), (.object "com/example/kairos/kairos/job/JobStatus"), (.object "com/example/kairos/kairos/job/JobStatus"), (.object "com/example/kairos/kairos/job/JobStatus"), (.object "com/example/kairos/kairos/job/JobStatus"), (.object "com/example/kairos/kairos/job/JobStatus"), (.array (.object "com/example/kairos/kairos/job/JobStatus"))]
  resolved := Array.replicate 66 none
  statics := some 0 }

def pool7 : Array CpInfo := pool [(1, u "java/lang/Cloneable"), (0, .class_ 1), (0, u "java/lang/Object"), (0, .class_ 3)] 3

/-- java/lang/Cloneable -/
def k7 : Class := { plain "java/lang/Cloneable" (some 0) with
  accessFlags := 1537
  interfaces := #[]
  cf := some (fileOf pool7 2 #[] #[] 1537 4 #[] #[])
  fields := #[]
  methods := #[]
  instanceTypes := #[]
  staticTypes := #[]
  resolved := Array.replicate 8 none
  statics := none }

/-- the primitive byte -/
def k8 : Class := { plain "byte" none with kind := .primitive 'B', accessFlags := 0x411 }
/-- [B -/
def k9 : Class := { plain "[B" (some 0) with kind := .array 8 .byte, interfaces := #[7, 4], accessFlags := 1041 }

/-- the primitive int -/
def k10 : Class := { plain "int" none with kind := .primitive 'I', accessFlags := 0x411 }
/-- [I -/
def k11 : Class := { plain "[I" (some 0) with kind := .array 10 .int, interfaces := #[7, 4], accessFlags := 1041 }

def heap : Heap := #[{ cls := 6, slots := #[.ref 1, .ref 2, .ref 3, .ref 4, .ref 5, .ref 6, .null], vm := .statics 6 },
  { cls := 6, slots := #[.null, .int 0, .int 0], vm := .none },
  { cls := 6, slots := #[.null, .int 1, .int 0], vm := .none },
  { cls := 6, slots := #[.null, .int 2, .int 0], vm := .none },
  { cls := 6, slots := #[.null, .int 3, .int 0], vm := .none },
  { cls := 6, slots := #[.null, .int 4, .int 0], vm := .none },
  { cls := 6, slots := #[.null, .int 5, .int 0], vm := .none }]
def classes : Array Class := #[k0, k1, k2, k3, k4, k5, k6, k7, k8, k9, k10, k11]
def interned : List (Array UInt16 × Addr) := []
def slotsUsed : Nat := 25
def theMethod : MethodId := ⟨1, 1⟩
def args0 : Array Value := #[.int 5]
def aboutOver (below : List Frame) : State where
  vm := { classes := classes, interned := interned.toArray }
  heap := heap
  slotsUsed := slotsUsed
  threads := #[{ frames := .invoking theMethod args0 :: below }]
def below0 : List Frame := [.native { method := ⟨0, 0⟩, args := #[] }]
def about1 : State := aboutOver below0
def p0 : Program := .bare "" "" ""
def e0 : Env := launch0.env 0 0 0
theorem w_frames : about1.frames = Frame.invoking theMethod args0 :: below0 := rfl
set_option maxRecDepth 65536 in
theorem w_args : argsFit about1.vm theMethod args0 = true := by decide +kernel
set_option maxRecDepth 65536 in
theorem w_heap : heapFits about1 = true := by decide +kernel
set_option maxRecDepth 65536 in
theorem w_runnable : about1.curStatus? = some .runnable := by decide +kernel
set_option maxRecDepth 65536 in
theorem w_alone : about1.alone = true := by decide +kernel
set_option maxRecDepth 65536 in
theorem w_named : about1.methodNamed? x = some theMethod := by decide +kernel
set_option maxRecDepth 65536 in
theorem w_hears : about1.hears theMethod below0 = true := by decide +kernel
set_option maxRecDepth 65536 in
theorem w_ripe : about1.ripe theMethod args0 below0 = true := by decide +kernel
theorem w_running : about1.status = .running := rfl
set_option maxRecDepth 65536 in
theorem w_room : about1.hasRoom e0.platform room_1 = true :=
  launch0.hasRoom_least _ room_1 (by decide +kernel) (by decide +kernel) (by decide +kernel) (by decide +kernel) (by decide +kernel) (by decide +kernel)
theorem allAtoms_all (ts : List Jvm.Cond) (a : Array Jvm.Value) (st : Jvm.State) : (allAtoms ts).before a st = ts.all (fun c => c.before a st) := by
  induction ts with
  | nil => rfl
  | cons c t ih =>
    show (Jvm.Cond.and c (allAtoms t)).before a st = _
    rw [Jvm.Cond.before_and, ih, List.all_cons]
def words1 : List Jvm.Cond := Jvm.Cond.code x code maxLocals ret :: tables_1
/-- a 'code' word, met by the world's own term for the bytes: nothing is compared byte by byte -/
theorem code_word {y : MethodName} {bytes : ByteArray} {mx : Nat} {rt : Option FieldType} {a : Array Value} {s : State} {m : MethodId} {meth : Method} {c : Code} (h1 : s.methodNamed? y = some m) (h2 : s.vm.method? m = some meth) (h3 : meth.code = some c) (h4 : c.code = bytes)
    (h5 : (c.maxLocals == mx && c.exceptionTable.isEmpty && decide (c.maxStack ≤ mostOperands) && decide (meth.sig.returnType = rt) && !meth.locks && decide (parseMethodDescriptor y.desc = some meth.sig)) = true) : (Jvm.Cond.code y bytes mx rt).before a s = true := by
  simp only [Bool.and_eq_true, beq_iff_eq, Bool.not_eq_true', decide_eq_true_eq] at h5
  obtain ⟨⟨⟨⟨⟨g1, g2⟩, g3⟩, g4⟩, g5⟩, g6⟩ := h5
  simp [Cond.before, Cond.holds, Cond.value, h1, h2, h3, h4, g1, g2, g3, g4, g5, g6]
def isCode : Jvm.Cond → Bool
  | .code _ _ _ _ => true
  | _ => false
theorem all_split {L : List Jvm.Cond} {P : Jvm.Cond → Bool} (h1 : L.all (fun c => isCode c || P c) = true) (h2 : ∀ c ∈ L.filter isCode, P c = true) : L.all P = true := by
  refine List.all_eq_true.mpr fun c hc => ?_
  have h := List.all_eq_true.mp h1 c hc
  rcases Bool.eq_false_or_eq_true (isCode c) with hi | hi
  · exact h2 c (List.mem_filter.mpr ⟨hc, hi⟩)
  · simpa [hi] using h
set_option maxRecDepth 65536 in
theorem w_c0 : (Jvm.Cond.code x code maxLocals ret).before args0 about1 = true := code_word (m := ⟨1, 1⟩) (meth := k1m1) (c := k1c1) (by decide +kernel) rfl rfl rfl (by decide +kernel)
set_option maxRecDepth 65536 in
theorem w_c1 : (Jvm.Cond.code ({ cls := "com/example/kairos/kairos/job/JobStatusIsEndPinLaw", name := "pick", desc := "(I)Lcom/example/kairos/kairos/job/JobStatus;" } : Jvm.MethodName) method_3_code (1 : Nat) (Option.some (Jvm.ClassFile.FieldType.object "com/example/kairos/kairos/job/JobStatus"))).before args0 about1 = true := code_word (m := ⟨1, 2⟩) (meth := k1m2) (c := k1c2) (by decide +kernel) rfl rfl rfl (by decide +kernel)
set_option maxRecDepth 65536 in
theorem w_c2 : (Jvm.Cond.code ({ cls := "com/example/kairos/kairos/job/JobStatusIsEndPinLaw", name := "successors", desc := "(I)I" } : Jvm.MethodName) method_4_code (1 : Nat) (Option.some Jvm.ClassFile.FieldType.int)).before args0 about1 = true := code_word (m := ⟨1, 3⟩) (meth := k1m3) (c := k1c3) (by decide +kernel) rfl rfl rfl (by decide +kernel)
set_option maxRecDepth 65536 in
theorem w_c3 : (Jvm.Cond.code ({ cls := "com/example/kairos/kairos/job/JobStatus", name := "isEnd", desc := "()Z" } : Jvm.MethodName) prog_26_method_4_code (1 : Nat) (Option.some Jvm.ClassFile.FieldType.boolean)).before args0 about1 = true := code_word (m := ⟨6, 0⟩) (meth := k6m0) (c := k6c0) (by decide +kernel) rfl rfl rfl (by decide +kernel)
def codes1 : List Jvm.Cond := [Jvm.Cond.code x code maxLocals ret, Jvm.Cond.code ({ cls := "com/example/kairos/kairos/job/JobStatusIsEndPinLaw", name := "pick", desc := "(I)Lcom/example/kairos/kairos/job/JobStatus;" } : Jvm.MethodName) method_3_code (1 : Nat) (Option.some (Jvm.ClassFile.FieldType.object "com/example/kairos/kairos/job/JobStatus")), Jvm.Cond.code ({ cls := "com/example/kairos/kairos/job/JobStatusIsEndPinLaw", name := "successors", desc := "(I)I" } : Jvm.MethodName) method_4_code (1 : Nat) (Option.some Jvm.ClassFile.FieldType.int), Jvm.Cond.code ({ cls := "com/example/kairos/kairos/job/JobStatus", name := "isEnd", desc := "()Z" } : Jvm.MethodName) prog_26_method_4_code (1 : Nat) (Option.some Jvm.ClassFile.FieldType.boolean)]
set_option maxRecDepth 65536 in
theorem codes_eq : words1.filter isCode = codes1 := rfl
theorem w_codes : ∀ c ∈ words1.filter isCode, c.before args0 about1 = true := by
  rw [codes_eq]
  intro c hc
  simp only [codes1, List.mem_cons, List.not_mem_nil, or_false] at hc
  rcases hc with rfl | rfl | rfl | rfl
  · exact w_c0
  · exact w_c1
  · exact w_c2
  · exact w_c3
set_option maxRecDepth 65536 in
theorem w_t1 : (words1.take 24).all (fun c => isCode c || c.before args0 about1) = true := by decide +kernel
set_option maxRecDepth 65536 in
theorem w_t2 : (words1.drop 24).all (fun c => isCode c || c.before args0 about1) = true := by decide +kernel
theorem w_tables : (allAtoms (Jvm.Cond.code x code maxLocals ret :: tables_1)).before args0 about1 = true := by
  rw [allAtoms_all]
  show words1.all (fun c => c.before args0 about1) = true
  refine all_split ?_ w_codes
  rw [← List.take_append_drop 24 words1, List.all_append, w_t1, w_t2]
  rfl
set_option maxRecDepth 65536 in
theorem w_case : (Jvm.Cond.and given_1 narrow_1).before args0 about1 = true := by decide +kernel
theorem w_applies : (headSpec (Jvm.Cond.code x code maxLocals ret :: tables_1) room_1).applies x e0.platform about1 = true :=
  (Spec.applies_iff w_frames).mpr ⟨w_running, w_runnable, w_alone, w_named, w_hears, w_ripe, w_room, w_tables⟩
theorem atStart : AtStart classFile x code maxLocals ret World_1 tables_1 room_1 Calls_1 rest_1 Pre_1 launch0 p0 e0 about1 theMethod args0 below0 :=
  ⟨lists_1, trivial, launch0.admits_env _ _ _, launch0.least_env, fairChoices_fair.cas, fairChoices_fair.clock, w_frames, w_args, w_heap, w_applies, trivial, trivial, w_case⟩
end start1
theorem witness_1 : WitnessClaimed_1 := ⟨start1.p0, start1.e0, start1.about1, start1.theMethod, start1.args0, start1.below0, start1.atStart⟩
end Jvm.Pilot.@@N@@
