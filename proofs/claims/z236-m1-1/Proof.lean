import JvmDerived
import JvmDerived.Pilot.@@N@@Statement
import JvmDerived.Pilot.@@N@@Code
set_option linter.unusedVariables false
set_option linter.unusedSimpArgs false
namespace Jvm.Pilot.@@N@@
open Jvm Jvm.ClassFile Sem Op Lib Jvm.Free Jvm.Stand Jvm.LawKit Jvm.RoadKit Bundle Jvm.Pilot.@@N@@.Jvm.D
abbrev sF (T : State) (m : MethodId) (pc : Nat) (Ls : Array Slot) (st : List Value) : State := T.setTop (mkF m pc Ls st)
/-- from F the run goes on to the method's end, and W holds there -/
def Goes (p : Program) (e : Env) (below : List Frame) (W : Outcome → State → Prop) (F : State) : Prop := ∃ s₂ o, Steps p.tables e below F s₂ ∧ s₂.status = .running ∧ Ended s₂ below o ∧ W o s₂
theorem Goes.step {p : Program} {e : Env} {below : List Frame} {W : Outcome → State → Prop} {F F' : State} (g : Goes p e below W F') (h : ∀ t, Steps p.tables e below F' t → Steps p.tables e below F t) : Goes p e below W F := by
  obtain ⟨s₂, o, h1, h2⟩ := g
  exact ⟨s₂, o, h _ h1, h2⟩
section Fin
variable {p : Program} {l : Launch} {e : Env} {R : Room} {s : State} {m : MethodId} {args : Array Value} {below : List Frame} {meth : Method} {c : Code} {T : State} {locs : List Loc} {cells slots : Nat}
theorem own_out (X : Stand p l e R s m args below meth c T locs cells slots) (hx : p.tables.exec = Jvm.exec) (hlk : meth.locks = false) {pc : Nat} {Ls : Array Slot} {w : Value} {t : FieldType} {i : Instr} {rest : List Value} {P : Option Value → Heap → List Loc → Prop} {C N : Nat} (hret : meth.sig.returnType = some t) (hn : narrow t w = w)
    (hi : (i = .ireturn ∧ (t = .int ∨ t = .boolean ∨ t = .byte ∨ t = .char ∨ t = .short) ∧ ∃ z, w = .int z) ∨ (i = .lreturn ∧ t = .long ∧ ∃ z, w = .long z) ∨ (i = .dreturn ∧ t = .double ∧ ∃ z, w = .double z) ∨ (i = .freturn ∧ t = .float ∧ ∃ z, w = .float z) ∨ (i = .areturn ∧ t.isReference = true ∧ w.isRef = true))
    (hd : decode c.code pc = .ok (i, 1)) (hP : P (some w) T.heap locs) (hC : cells ≤ C) (hN : slots ≤ N) :
    Goes p e below (fun o U' => ∃ v L, o = .returned v ∧ P v U'.heap L ∧ FrameEnd s o U' L C N) (T.setTop (mkF m pc Ls (w :: rest))) := by
  obtain ⟨fs, hr, hrun, hended, hW, hsame⟩ := X.leave (v := some w) (fun h => by rw [hret] at h; cases h)
  exact ⟨_, _, retOut X hx hret hn hi hd hr, hrun, hended, _, _, rfl, hP, ⟨_, rfl⟩, hW, hsame.mono hC hN⟩
theorem own_outV (X : Stand p l e R s m args below meth c T locs cells slots) (hx : p.tables.exec = Jvm.exec) (hlk : meth.locks = false) {pc : Nat} {Ls : Array Slot} {P : Option Value → Heap → List Loc → Prop} {C N : Nat} (hret : meth.sig.returnType = none)
    (hd : decode c.code pc = .ok (.return_, 1)) (hP : P none T.heap locs) (hC : cells ≤ C) (hN : slots ≤ N) :
    Goes p e below (fun o U' => ∃ v L, o = .returned v ∧ P v U'.heap L ∧ FrameEnd s o U' L C N) (T.setTop (mkF m pc Ls [])) := by
  obtain ⟨fs, hr, hrun, hended, hW, hsame⟩ := X.leave (v := none) (fun _ => rfl)
  exact ⟨_, _, X.returnOut hx hret hd hr, hrun, hended, _, _, rfl, hP, ⟨_, rfl⟩, hW, hsame.mono hC hN⟩
theorem own_outW {vm₁ : Vm} {n : Nat} (X : Stand p l e R (s.setVm vm₁) m args below meth c T locs cells slots) (hS : s.Since vm₁ n) (hn : n ≤ T.heap.size) (hx : p.tables.exec = Jvm.exec) (hlk : meth.locks = false) {pc : Nat} {Ls : Array Slot} {w : Value} {t : FieldType} {i : Instr} {rest : List Value} {P : Option Value → Heap → List Loc → Prop} {C N : Nat} (hret : meth.sig.returnType = some t) (hnw : narrow t w = w)
    (hi : (i = .ireturn ∧ (t = .int ∨ t = .boolean ∨ t = .byte ∨ t = .char ∨ t = .short) ∧ ∃ z, w = .int z) ∨ (i = .lreturn ∧ t = .long ∧ ∃ z, w = .long z) ∨ (i = .dreturn ∧ t = .double ∧ ∃ z, w = .double z) ∨ (i = .freturn ∧ t = .float ∧ ∃ z, w = .float z) ∨ (i = .areturn ∧ t.isReference = true ∧ w.isRef = true))
    (hd : decode c.code pc = .ok (i, 1)) (hP : P (some w) T.heap locs) (hC : cells ≤ C) (hN : slots ≤ N) :
    Goes p e below (fun o U' => ∃ v L, o = .returned v ∧ P v U'.heap L ∧ ReturnedEndW s o U' L C N) (T.setTop (mkF m pc Ls (w :: rest))) := by
  obtain ⟨fs, hr, hrun, hended, h1, h2, h3, h4⟩ := X.leaveW hS hn (v := some w) (fun h => by rw [hret] at h; cases h)
  exact ⟨_, _, retOut X hx hret hnw hi hd hr, hrun, hended, _, _, rfl, hP, h1, h2, h3, h4.mono hC hN⟩
theorem own_outVW {vm₁ : Vm} {n : Nat} (X : Stand p l e R (s.setVm vm₁) m args below meth c T locs cells slots) (hS : s.Since vm₁ n) (hn : n ≤ T.heap.size) (hx : p.tables.exec = Jvm.exec) (hlk : meth.locks = false) {pc : Nat} {Ls : Array Slot} {P : Option Value → Heap → List Loc → Prop} {C N : Nat} (hret : meth.sig.returnType = none)
    (hd : decode c.code pc = .ok (.return_, 1)) (hP : P none T.heap locs) (hC : cells ≤ C) (hN : slots ≤ N) :
    Goes p e below (fun o U' => ∃ v L, o = .returned v ∧ P v U'.heap L ∧ ReturnedEndW s o U' L C N) (T.setTop (mkF m pc Ls [])) := by
  obtain ⟨fs, hr, hrun, hended, h1, h2, h3, h4⟩ := X.leaveW hS hn (v := none) (fun _ => rfl)
  exact ⟨_, _, X.returnOut hx hret hd hr, hrun, hended, _, _, rfl, hP, h1, h2, h3, h4.mono hC hN⟩
theorem own_lrem {g : JFrame} {target : State} (X : Stand p l e R s m args below meth c T locs cells slots) (hx : p.tables.exec = Jvm.exec) (hg : g.method = m) {x y : Int64} {rest : List Value} (hd : decode c.code g.pc = .ok (.lrem, 1)) (hs : g.stack = .long y :: .long x :: rest) (hy : y ≠ 0)
    (hr : Steps p.tables e below (T.setTop { g with pc := g.pc + 1, stack := .long (x % y) :: rest }) target) : Steps p.tables e below (T.setTop g) target := by
  have q : x - x / y * y = x % y := lrem_mod x y
  exact XS.lrem X.here hx hg hd hs hy (by rw [q]; exact hr)
end Fin
def pickV (k : Int32) (w0 w1 w2 w3 w4 w5 w6 w7 w8 : Addr) : Addr := if k = 0 then w0 else if k = 1 then w1 else if k = 2 then w2 else if k = 3 then w3 else if k = 4 then w4 else if k = 5 then w5 else if k = 6 then w6 else if k = 7 then w7 else w8
theorem pn_com_example_schenley_schenley_ColumnTypeIsWholeNumberPinLaw : plainName "com/example/schenley/schenley/ColumnTypeIsWholeNumberPinLaw" = true := by first | (simp [plainName, overriddenIn]; done) | decide +kernel
theorem ef_rm1 (m : MethodId) (x0 : Int32) : entryFrame m #[(.int x0)] 1 = mkF m 0 #[iv x0] [] := by first | (simp [entryFrame, mkF, argsToLocals, Value.category]; done) | rfl
def Q1 (Z : State) (r : Addr) (h0 : Heap) (n0 : Nat) (v : Option Value) (h : Heap) (L : List Loc) : Prop := v = some (.ref r) ∧ Fr n0 L ∧ h = h0
theorem d1_0 : decode method_3_code 0 = .ok (.iload_n 0, 1) := by decide +kernel
theorem d1_1 : decode method_3_code 1 = .ok (.ifCond .ne 7, 3) := by decide +kernel
theorem d1_4 : decode method_3_code 4 = .ok (.getstatic 20, 3) := by decide +kernel
theorem d1_7 : decode method_3_code 7 = .ok (.areturn, 1) := by decide +kernel
theorem d1_8 : decode method_3_code 8 = .ok (.iload_n 0, 1) := by decide +kernel
theorem d1_9 : decode method_3_code 9 = .ok (.iconst 1, 1) := by decide +kernel
theorem d1_10 : decode method_3_code 10 = .ok (.if_icmp .ne 7, 3) := by decide +kernel
theorem d1_13 : decode method_3_code 13 = .ok (.getstatic 24, 3) := by decide +kernel
theorem d1_16 : decode method_3_code 16 = .ok (.areturn, 1) := by decide +kernel
theorem d1_17 : decode method_3_code 17 = .ok (.iload_n 0, 1) := by decide +kernel
theorem d1_18 : decode method_3_code 18 = .ok (.iconst 2, 1) := by decide +kernel
theorem d1_19 : decode method_3_code 19 = .ok (.if_icmp .ne 7, 3) := by decide +kernel
theorem d1_22 : decode method_3_code 22 = .ok (.getstatic 27, 3) := by decide +kernel
theorem d1_25 : decode method_3_code 25 = .ok (.areturn, 1) := by decide +kernel
theorem d1_26 : decode method_3_code 26 = .ok (.iload_n 0, 1) := by decide +kernel
theorem d1_27 : decode method_3_code 27 = .ok (.iconst 3, 1) := by decide +kernel
theorem d1_28 : decode method_3_code 28 = .ok (.if_icmp .ne 7, 3) := by decide +kernel
theorem d1_31 : decode method_3_code 31 = .ok (.getstatic 30, 3) := by decide +kernel
theorem d1_34 : decode method_3_code 34 = .ok (.areturn, 1) := by decide +kernel
theorem d1_35 : decode method_3_code 35 = .ok (.iload_n 0, 1) := by decide +kernel
theorem d1_36 : decode method_3_code 36 = .ok (.iconst 4, 1) := by decide +kernel
theorem d1_37 : decode method_3_code 37 = .ok (.if_icmp .ne 7, 3) := by decide +kernel
theorem d1_40 : decode method_3_code 40 = .ok (.getstatic 33, 3) := by decide +kernel
theorem d1_43 : decode method_3_code 43 = .ok (.areturn, 1) := by decide +kernel
theorem d1_44 : decode method_3_code 44 = .ok (.iload_n 0, 1) := by decide +kernel
theorem d1_45 : decode method_3_code 45 = .ok (.iconst 5, 1) := by decide +kernel
theorem d1_46 : decode method_3_code 46 = .ok (.if_icmp .ne 7, 3) := by decide +kernel
theorem d1_49 : decode method_3_code 49 = .ok (.getstatic 36, 3) := by decide +kernel
theorem d1_52 : decode method_3_code 52 = .ok (.areturn, 1) := by decide +kernel
theorem d1_53 : decode method_3_code 53 = .ok (.iload_n 0, 1) := by decide +kernel
theorem d1_54 : decode method_3_code 54 = .ok (.bipush 6, 2) := by decide +kernel
theorem d1_56 : decode method_3_code 56 = .ok (.if_icmp .ne 7, 3) := by decide +kernel
theorem d1_59 : decode method_3_code 59 = .ok (.getstatic 39, 3) := by decide +kernel
theorem d1_62 : decode method_3_code 62 = .ok (.areturn, 1) := by decide +kernel
theorem d1_63 : decode method_3_code 63 = .ok (.iload_n 0, 1) := by decide +kernel
theorem d1_64 : decode method_3_code 64 = .ok (.bipush 7, 2) := by decide +kernel
theorem d1_66 : decode method_3_code 66 = .ok (.if_icmp .ne 7, 3) := by decide +kernel
theorem d1_69 : decode method_3_code 69 = .ok (.getstatic 42, 3) := by decide +kernel
theorem d1_72 : decode method_3_code 72 = .ok (.areturn, 1) := by decide +kernel
theorem d1_73 : decode method_3_code 73 = .ok (.getstatic 45, 3) := by decide +kernel
theorem d1_76 : decode method_3_code 76 = .ok (.areturn, 1) := by decide +kernel
set_option maxRecDepth 65536 in
set_option maxHeartbeats 40000000 in
theorem rm1 (l : Launch) (Z : State) (a0 : Array Value) (hw : ∀ d ∈ tables_1, d.before a0 Z = true) (ws : List Jvm.Cond) (p1 : Int32) (w0 : Addr) (w1 : Addr) (w2 : Addr) (w3 : Addr) (w4 : Addr) (w5 : Addr) (w6 : Addr) (w7 : Addr) (w8 : Addr) (r : Addr) (h0 : Heap) (n0 : Nat) (Z0 : n0 ≤ h0.size) (S_SHORT : Sta Z h0 "com/example/schenley/schenley/ColumnType" "SHORT" "Lcom/example/schenley/schenley/ColumnType;" (.ref w0)) (S_INTEGER : Sta Z h0 "com/example/schenley/schenley/ColumnType" "INTEGER" "Lcom/example/schenley/schenley/ColumnType;" (.ref w1)) (S_LONG : Sta Z h0 "com/example/schenley/schenley/ColumnType" "LONG" "Lcom/example/schenley/schenley/ColumnType;" (.ref w2)) (S_BOOLEAN : Sta Z h0 "com/example/schenley/schenley/ColumnType" "BOOLEAN" "Lcom/example/schenley/schenley/ColumnType;" (.ref w3)) (S_STRING : Sta Z h0 "com/example/schenley/schenley/ColumnType" "STRING" "Lcom/example/schenley/schenley/ColumnType;" (.ref w4)) (S_DECIMAL : Sta Z h0 "com/example/schenley/schenley/ColumnType" "DECIMAL" "Lcom/example/schenley/schenley/ColumnType;" (.ref w5)) (S_LOCAL_DATE : Sta Z h0 "com/example/schenley/schenley/ColumnType" "LOCAL_DATE" "Lcom/example/schenley/schenley/ColumnType;" (.ref w6)) (S_LOCAL_DATE_TIME : Sta Z h0 "com/example/schenley/schenley/ColumnType" "LOCAL_DATE_TIME" "Lcom/example/schenley/schenley/ColumnType;" (.ref w7)) (S_INSTANT : Sta Z h0 "com/example/schenley/schenley/ColumnType" "INSTANT" "Lcom/example/schenley/schenley/ColumnType;" (.ref w8)) (hr : pickV p1 w0 w1 w2 w3 w4 w5 w6 w7 w8 = r) :
    MetFree l (⟨"com/example/schenley/schenley/ColumnTypeIsWholeNumberPinLaw", "pick", "(I)Lcom/example/schenley/schenley/ColumnType;"⟩ : MethodName) (head1 (Jvm.Cond.code (⟨"com/example/schenley/schenley/ColumnTypeIsWholeNumberPinLaw", "pick", "(I)Lcom/example/schenley/schenley/ColumnType;"⟩ : MethodName) method_3_code 1 (some (.object "com/example/schenley/schenley/ColumnType")) :: ws) ({ frames := 0, cells := 0, slots := 0, locals := 0 } : Room)) (fun a U => a = #[(.int p1)] ∧ Z.Warmed39 U.vm ∧ U.heap = h0) (fun _ _ _ _ _ => True) (fun _ U o U' => ∃ v L, o = .returned v ∧ Q1 Z r h0 n0 v U'.heap L ∧ FrameEnd U o U' L ({ frames := 0, cells := 0, slots := 0, locals := 0 } : Room).cells ({ frames := 0, cells := 0, slots := 0, locals := 0 } : Room).slots) := by
  refine MetFree.of_bodySF (plainFor_of_name pn_com_example_schenley_schenley_ColumnTypeIsWholeNumberPinLaw) hisR ?_
  intro p e s m args below meth c s₁ Bd hml0 hP hK
  obtain ⟨rfl, hZ, hh⟩ := hP
  have hx := Bd.exec
  have hby := Bd.bytes
  have hlk : meth.locks = false := BodyLoose.notSynchronized Bd
  have hml : c.maxLocals = 1 := hml0
  have hown : s.vm.findClass "com/example/schenley/schenley/ColumnTypeIsWholeNumberPinLaw" = some m.cls := findClass_of_methodNamed Bd.named
  have hnm := (name_of_methodNamed Bd.named Bd.method).1
  have X0 : Stand p l e ({ frames := 0, cells := 0, slots := 0, locals := 0 } : Room) s m #[(.int p1)] below meth c s₁ [] 0 0 := Stand.of_body Bd
  have e0 : s₁.heap = h0 := by rw [← hh, Bd.state]; rfl
  have N0 := Fr.nil n0
  have hret := Bd.returns
  show Goes p e below (fun o U' => ∃ v L, o = .returned v ∧ Q1 Z r h0 n0 v U'.heap L ∧ FrameEnd s o U' L ({ frames := 0, cells := 0, slots := 0, locals := 0 } : Room).cells ({ frames := 0, cells := 0, slots := 0, locals := 0 } : Room).slots) (s₁.setTop (entryFrame m #[(.int p1)] 1))
  refine Goes.step ?_ (fun _ k => castTop (ef_rm1 m p1) k)
  show Goes p e below _ (sF s₁ m 0 #[iv p1] [])
  refine Goes.step ?_ (fun _ k => XS.iloadN X0.here hx rfl (hb hby d1_0) rfl  k)
  show Goes p e below _ (sF s₁ m 1 #[iv p1] [(.int p1)])
  by_cases hc1_1 : p1 = (0 : Int32)
  · refine Goes.step ?_ (fun _ k => XS.ifNo X0.here hx rfl (hb hby d1_1) rfl ((if0 _ _).trans (teq hc1_1).2) k)
    show Goes p e below _ (sF s₁ m 4 #[iv p1] [])
    obtain ⟨T2, X2, e2, st2⟩ := getS2 X0 hx hZ hown (host := "") (Or.inl (hw _ (List.mem_of_getElem? (i := 5) rfl))) Via.refl e0 S_SHORT (g := (mkF m 4 #[iv p1] [])) rfl (hb hby d1_4)
    refine Goes.step ?_ st2
    show Goes p e below _ (sF T2 m 7 #[iv p1] [(.ref w0)])
    refine own_out X2 hx hlk hret rfl (Or.inr (Or.inr (Or.inr (Or.inr ⟨rfl, rfl, rfl⟩)))) (hb hby d1_7) ?_ (by decide) (by decide)
    show Q1 Z r h0 n0 _ T2.heap _
    rw [e2]
    exact ⟨by rw [← hr]; simp [pickV, hc1_1], N0, rfl⟩
  · refine Goes.step ?_ (fun _ k => XS.ifYes X0.here hx rfl (pc0 := 1) (pc' := 8) rfl (hb hby d1_1) rfl ((if0 _ _).trans (feq hc1_1).2) (by decide) (by decide) k)
    show Goes p e below _ (sF s₁ m 8 #[iv p1] [])
    refine Goes.step ?_ (fun _ k => XS.iloadN X0.here hx rfl (hb hby d1_8) rfl  k)
    show Goes p e below _ (sF s₁ m 9 #[iv p1] [(.int p1)])
    refine Goes.step ?_ (fun _ k => XS.iconst X0.here hx rfl (hb hby d1_9) k)
    show Goes p e below _ (sF s₁ m 10 #[iv p1] [(.int (1 : Int32)), (.int p1)])
    by_cases hc10_3 : p1 = (1 : Int32)
    · refine Goes.step ?_ (fun _ k => XS.icmpNo X0.here hx rfl (hb hby d1_10) rfl (teq hc10_3).2 k)
      show Goes p e below _ (sF s₁ m 13 #[iv p1] [])
      obtain ⟨T4, X4, e4, st4⟩ := getS2 X0 hx hZ hown (host := "") (Or.inl (hw _ (List.mem_of_getElem? (i := 23) rfl))) Via.refl e0 S_INTEGER (g := (mkF m 13 #[iv p1] [])) rfl (hb hby d1_13)
      refine Goes.step ?_ st4
      show Goes p e below _ (sF T4 m 16 #[iv p1] [(.ref w1)])
      refine own_out X4 hx hlk hret rfl (Or.inr (Or.inr (Or.inr (Or.inr ⟨rfl, rfl, rfl⟩)))) (hb hby d1_16) ?_ (by decide) (by decide)
      show Q1 Z r h0 n0 _ T4.heap _
      rw [e4]
      exact ⟨by rw [← hr]; simp [pickV, hc1_1, hc10_3], N0, rfl⟩
    · refine Goes.step ?_ (fun _ k => XS.icmpYes X0.here hx rfl (pc0 := 10) (pc' := 17) rfl (hb hby d1_10) rfl (feq hc10_3).2 (by decide) (by decide) k)
      show Goes p e below _ (sF s₁ m 17 #[iv p1] [])
      refine Goes.step ?_ (fun _ k => XS.iloadN X0.here hx rfl (hb hby d1_17) rfl  k)
      show Goes p e below _ (sF s₁ m 18 #[iv p1] [(.int p1)])
      refine Goes.step ?_ (fun _ k => XS.iconst X0.here hx rfl (hb hby d1_18) k)
      show Goes p e below _ (sF s₁ m 19 #[iv p1] [(.int (2 : Int32)), (.int p1)])
      by_cases hc19_5 : p1 = (2 : Int32)
      · refine Goes.step ?_ (fun _ k => XS.icmpNo X0.here hx rfl (hb hby d1_19) rfl (teq hc19_5).2 k)
        show Goes p e below _ (sF s₁ m 22 #[iv p1] [])
        obtain ⟨T6, X6, e6, st6⟩ := getS2 X0 hx hZ hown (host := "") (Or.inl (hw _ (List.mem_of_getElem? (i := 19) rfl))) Via.refl e0 S_LONG (g := (mkF m 22 #[iv p1] [])) rfl (hb hby d1_22)
        refine Goes.step ?_ st6
        show Goes p e below _ (sF T6 m 25 #[iv p1] [(.ref w2)])
        refine own_out X6 hx hlk hret rfl (Or.inr (Or.inr (Or.inr (Or.inr ⟨rfl, rfl, rfl⟩)))) (hb hby d1_25) ?_ (by decide) (by decide)
        show Q1 Z r h0 n0 _ T6.heap _
        rw [e6]
        exact ⟨by rw [← hr]; simp [pickV, hc1_1, hc10_3, hc19_5], N0, rfl⟩
      · refine Goes.step ?_ (fun _ k => XS.icmpYes X0.here hx rfl (pc0 := 19) (pc' := 26) rfl (hb hby d1_19) rfl (feq hc19_5).2 (by decide) (by decide) k)
        show Goes p e below _ (sF s₁ m 26 #[iv p1] [])
        refine Goes.step ?_ (fun _ k => XS.iloadN X0.here hx rfl (hb hby d1_26) rfl  k)
        show Goes p e below _ (sF s₁ m 27 #[iv p1] [(.int p1)])
        refine Goes.step ?_ (fun _ k => XS.iconst X0.here hx rfl (hb hby d1_27) k)
        show Goes p e below _ (sF s₁ m 28 #[iv p1] [(.int (3 : Int32)), (.int p1)])
        by_cases hc28_7 : p1 = (3 : Int32)
        · refine Goes.step ?_ (fun _ k => XS.icmpNo X0.here hx rfl (hb hby d1_28) rfl (teq hc28_7).2 k)
          show Goes p e below _ (sF s₁ m 31 #[iv p1] [])
          obtain ⟨T8, X8, e8, st8⟩ := getS2 X0 hx hZ hown (host := "") (Or.inl (hw _ (List.mem_of_getElem? (i := 15) rfl))) Via.refl e0 S_BOOLEAN (g := (mkF m 31 #[iv p1] [])) rfl (hb hby d1_31)
          refine Goes.step ?_ st8
          show Goes p e below _ (sF T8 m 34 #[iv p1] [(.ref w3)])
          refine own_out X8 hx hlk hret rfl (Or.inr (Or.inr (Or.inr (Or.inr ⟨rfl, rfl, rfl⟩)))) (hb hby d1_34) ?_ (by decide) (by decide)
          show Q1 Z r h0 n0 _ T8.heap _
          rw [e8]
          exact ⟨by rw [← hr]; simp [pickV, hc1_1, hc10_3, hc19_5, hc28_7], N0, rfl⟩
        · refine Goes.step ?_ (fun _ k => XS.icmpYes X0.here hx rfl (pc0 := 28) (pc' := 35) rfl (hb hby d1_28) rfl (feq hc28_7).2 (by decide) (by decide) k)
          show Goes p e below _ (sF s₁ m 35 #[iv p1] [])
          refine Goes.step ?_ (fun _ k => XS.iloadN X0.here hx rfl (hb hby d1_35) rfl  k)
          show Goes p e below _ (sF s₁ m 36 #[iv p1] [(.int p1)])
          refine Goes.step ?_ (fun _ k => XS.iconst X0.here hx rfl (hb hby d1_36) k)
          show Goes p e below _ (sF s₁ m 37 #[iv p1] [(.int (4 : Int32)), (.int p1)])
          by_cases hc37_9 : p1 = (4 : Int32)
          · refine Goes.step ?_ (fun _ k => XS.icmpNo X0.here hx rfl (hb hby d1_37) rfl (teq hc37_9).2 k)
            show Goes p e below _ (sF s₁ m 40 #[iv p1] [])
            obtain ⟨T10, X10, e10, st10⟩ := getS2 X0 hx hZ hown (host := "") (Or.inl (hw _ (List.mem_of_getElem? (i := 31) rfl))) Via.refl e0 S_STRING (g := (mkF m 40 #[iv p1] [])) rfl (hb hby d1_40)
            refine Goes.step ?_ st10
            show Goes p e below _ (sF T10 m 43 #[iv p1] [(.ref w4)])
            refine own_out X10 hx hlk hret rfl (Or.inr (Or.inr (Or.inr (Or.inr ⟨rfl, rfl, rfl⟩)))) (hb hby d1_43) ?_ (by decide) (by decide)
            show Q1 Z r h0 n0 _ T10.heap _
            rw [e10]
            exact ⟨by rw [← hr]; simp [pickV, hc1_1, hc10_3, hc19_5, hc28_7, hc37_9], N0, rfl⟩
          · refine Goes.step ?_ (fun _ k => XS.icmpYes X0.here hx rfl (pc0 := 37) (pc' := 44) rfl (hb hby d1_37) rfl (feq hc37_9).2 (by decide) (by decide) k)
            show Goes p e below _ (sF s₁ m 44 #[iv p1] [])
            refine Goes.step ?_ (fun _ k => XS.iloadN X0.here hx rfl (hb hby d1_44) rfl  k)
            show Goes p e below _ (sF s₁ m 45 #[iv p1] [(.int p1)])
            refine Goes.step ?_ (fun _ k => XS.iconst X0.here hx rfl (hb hby d1_45) k)
            show Goes p e below _ (sF s₁ m 46 #[iv p1] [(.int (5 : Int32)), (.int p1)])
            by_cases hc46_11 : p1 = (5 : Int32)
            · refine Goes.step ?_ (fun _ k => XS.icmpNo X0.here hx rfl (hb hby d1_46) rfl (teq hc46_11).2 k)
              show Goes p e below _ (sF s₁ m 49 #[iv p1] [])
              obtain ⟨T12, X12, e12, st12⟩ := getS2 X0 hx hZ hown (host := "") (Or.inl (hw _ (List.mem_of_getElem? (i := 41) rfl))) Via.refl e0 S_DECIMAL (g := (mkF m 49 #[iv p1] [])) rfl (hb hby d1_49)
              refine Goes.step ?_ st12
              show Goes p e below _ (sF T12 m 52 #[iv p1] [(.ref w5)])
              refine own_out X12 hx hlk hret rfl (Or.inr (Or.inr (Or.inr (Or.inr ⟨rfl, rfl, rfl⟩)))) (hb hby d1_52) ?_ (by decide) (by decide)
              show Q1 Z r h0 n0 _ T12.heap _
              rw [e12]
              exact ⟨by rw [← hr]; simp [pickV, hc1_1, hc10_3, hc19_5, hc28_7, hc37_9, hc46_11], N0, rfl⟩
            · refine Goes.step ?_ (fun _ k => XS.icmpYes X0.here hx rfl (pc0 := 46) (pc' := 53) rfl (hb hby d1_46) rfl (feq hc46_11).2 (by decide) (by decide) k)
              show Goes p e below _ (sF s₁ m 53 #[iv p1] [])
              refine Goes.step ?_ (fun _ k => XS.iloadN X0.here hx rfl (hb hby d1_53) rfl  k)
              show Goes p e below _ (sF s₁ m 54 #[iv p1] [(.int p1)])
              refine Goes.step ?_ (fun _ k => XS.bipush X0.here hx rfl (hb hby d1_54) k)
              show Goes p e below _ (sF s₁ m 56 #[iv p1] [(.int (6 : Int32)), (.int p1)])
              by_cases hc56_13 : p1 = (6 : Int32)
              · refine Goes.step ?_ (fun _ k => XS.icmpNo X0.here hx rfl (hb hby d1_56) rfl (teq hc56_13).2 k)
                show Goes p e below _ (sF s₁ m 59 #[iv p1] [])
                obtain ⟨T14, X14, e14, st14⟩ := getS2 X0 hx hZ hown (host := "") (Or.inl (hw _ (List.mem_of_getElem? (i := 39) rfl))) Via.refl e0 S_LOCAL_DATE (g := (mkF m 59 #[iv p1] [])) rfl (hb hby d1_59)
                refine Goes.step ?_ st14
                show Goes p e below _ (sF T14 m 62 #[iv p1] [(.ref w6)])
                refine own_out X14 hx hlk hret rfl (Or.inr (Or.inr (Or.inr (Or.inr ⟨rfl, rfl, rfl⟩)))) (hb hby d1_62) ?_ (by decide) (by decide)
                show Q1 Z r h0 n0 _ T14.heap _
                rw [e14]
                exact ⟨by rw [← hr]; simp [pickV, hc1_1, hc10_3, hc19_5, hc28_7, hc37_9, hc46_11, hc56_13], N0, rfl⟩
              · refine Goes.step ?_ (fun _ k => XS.icmpYes X0.here hx rfl (pc0 := 56) (pc' := 63) rfl (hb hby d1_56) rfl (feq hc56_13).2 (by decide) (by decide) k)
                show Goes p e below _ (sF s₁ m 63 #[iv p1] [])
                refine Goes.step ?_ (fun _ k => XS.iloadN X0.here hx rfl (hb hby d1_63) rfl  k)
                show Goes p e below _ (sF s₁ m 64 #[iv p1] [(.int p1)])
                refine Goes.step ?_ (fun _ k => XS.bipush X0.here hx rfl (hb hby d1_64) k)
                show Goes p e below _ (sF s₁ m 66 #[iv p1] [(.int (7 : Int32)), (.int p1)])
                by_cases hc66_15 : p1 = (7 : Int32)
                · refine Goes.step ?_ (fun _ k => XS.icmpNo X0.here hx rfl (hb hby d1_66) rfl (teq hc66_15).2 k)
                  show Goes p e below _ (sF s₁ m 69 #[iv p1] [])
                  obtain ⟨T16, X16, e16, st16⟩ := getS2 X0 hx hZ hown (host := "") (Or.inl (hw _ (List.mem_of_getElem? (i := 27) rfl))) Via.refl e0 S_LOCAL_DATE_TIME (g := (mkF m 69 #[iv p1] [])) rfl (hb hby d1_69)
                  refine Goes.step ?_ st16
                  show Goes p e below _ (sF T16 m 72 #[iv p1] [(.ref w7)])
                  refine own_out X16 hx hlk hret rfl (Or.inr (Or.inr (Or.inr (Or.inr ⟨rfl, rfl, rfl⟩)))) (hb hby d1_72) ?_ (by decide) (by decide)
                  show Q1 Z r h0 n0 _ T16.heap _
                  rw [e16]
                  exact ⟨by rw [← hr]; simp [pickV, hc1_1, hc10_3, hc19_5, hc28_7, hc37_9, hc46_11, hc56_13, hc66_15], N0, rfl⟩
                · refine Goes.step ?_ (fun _ k => XS.icmpYes X0.here hx rfl (pc0 := 66) (pc' := 73) rfl (hb hby d1_66) rfl (feq hc66_15).2 (by decide) (by decide) k)
                  show Goes p e below _ (sF s₁ m 73 #[iv p1] [])
                  obtain ⟨T17, X17, e17, st17⟩ := getS2 X0 hx hZ hown (host := "") (Or.inl (hw _ (List.mem_of_getElem? (i := 35) rfl))) Via.refl e0 S_INSTANT (g := (mkF m 73 #[iv p1] [])) rfl (hb hby d1_73)
                  refine Goes.step ?_ st17
                  show Goes p e below _ (sF T17 m 76 #[iv p1] [(.ref w8)])
                  refine own_out X17 hx hlk hret rfl (Or.inr (Or.inr (Or.inr (Or.inr ⟨rfl, rfl, rfl⟩)))) (hb hby d1_76) ?_ (by decide) (by decide)
                  show Q1 Z r h0 n0 _ T17.heap _
                  rw [e17]
                  exact ⟨by rw [← hr]; simp [pickV, hc1_1, hc10_3, hc19_5, hc28_7, hc37_9, hc46_11, hc56_13, hc66_15], N0, rfl⟩
theorem pn_com_example_schenley_schenley_ColumnType : plainName "com/example/schenley/schenley/ColumnType" = true := by first | (simp [plainName, overriddenIn]; done) | decide +kernel
theorem ef_rm2 (m : MethodId) (x0 : Addr) : entryFrame m #[(.ref x0)] 1 = mkF m 0 #[rv x0] [] := by first | (simp [entryFrame, mkF, argsToLocals, Value.category]; done) | rfl
def Q2 (Z : State) (r : Int32) (h0 : Heap) (n0 : Nat) (v : Option Value) (h : Heap) (L : List Loc) : Prop := v = some (.int r) ∧ Fr n0 L ∧ h = h0
theorem d2_0 : decode prog_1_method_12_code 0 = .ok (.aload_n 0, 1) := by decide +kernel
theorem d2_1 : decode prog_1_method_12_code 1 = .ok (.getfield 54, 3) := by decide +kernel
theorem d2_4 : decode prog_1_method_12_code 4 = .ok (.ifnull 7, 3) := by decide +kernel
theorem d2_11 : decode prog_1_method_12_code 11 = .ok (.iconst 0, 1) := by decide +kernel
theorem d2_12 : decode prog_1_method_12_code 12 = .ok (.ireturn, 1) := by decide +kernel
theorem d2_7 : decode prog_1_method_12_code 7 = .ok (.iconst 1, 1) := by decide +kernel
theorem d2_8 : decode prog_1_method_12_code 8 = .ok (.goto 4, 3) := by decide +kernel
set_option maxRecDepth 65536 in
set_option maxHeartbeats 40000000 in
theorem rm2 (l : Launch) (Z : State) (a0 : Array Value) (hw : ∀ d ∈ tables_1, d.before a0 Z = true) (ws : List Jvm.Cond) (a1 : Addr) (fv : Value) (r : Int32) (h0 : Heap) (n0 : Nat) (Z0 : n0 ≤ h0.size) (F_a : Fld Z h0 a1 "com/example/schenley/schenley/ColumnType" "firstVersion" "Ljava/lang/Object;" fv) (hfv : (fv = .null ∧ r = 0) ∨ (∃ b, fv = .ref b ∧ r = 1)) :
    MetFree l (⟨"com/example/schenley/schenley/ColumnType", "isWholeNumber", "()Z"⟩ : MethodName) (head1 (Jvm.Cond.code (⟨"com/example/schenley/schenley/ColumnType", "isWholeNumber", "()Z"⟩ : MethodName) prog_1_method_12_code 1 (some .boolean) :: ws) ({ frames := 0, cells := 0, slots := 0, locals := 0 } : Room)) (fun a U => a = #[(.ref a1)] ∧ Z.Warmed39 U.vm ∧ U.heap = h0) (fun _ _ _ _ _ => True) (fun _ U o U' => ∃ v L, o = .returned v ∧ Q2 Z r h0 n0 v U'.heap L ∧ FrameEnd U o U' L ({ frames := 0, cells := 0, slots := 0, locals := 0 } : Room).cells ({ frames := 0, cells := 0, slots := 0, locals := 0 } : Room).slots) := by
  refine MetFree.of_bodySF (plainFor_of_name pn_com_example_schenley_schenley_ColumnType) hisR ?_
  intro p e s m args below meth c s₁ Bd hml0 hP hK
  obtain ⟨rfl, hZ, hh⟩ := hP
  have hx := Bd.exec
  have hby := Bd.bytes
  have hlk : meth.locks = false := BodyLoose.notSynchronized Bd
  have hml : c.maxLocals = 1 := hml0
  have hown : s.vm.findClass "com/example/schenley/schenley/ColumnType" = some m.cls := findClass_of_methodNamed Bd.named
  have hnm := (name_of_methodNamed Bd.named Bd.method).1
  have X0 : Stand p l e ({ frames := 0, cells := 0, slots := 0, locals := 0 } : Room) s m #[(.ref a1)] below meth c s₁ [] 0 0 := Stand.of_body Bd
  have e0 : s₁.heap = h0 := by rw [← hh, Bd.state]; rfl
  have N0 := Fr.nil n0
  have hret := Bd.returns
  show Goes p e below (fun o U' => ∃ v L, o = .returned v ∧ Q2 Z r h0 n0 v U'.heap L ∧ FrameEnd s o U' L ({ frames := 0, cells := 0, slots := 0, locals := 0 } : Room).cells ({ frames := 0, cells := 0, slots := 0, locals := 0 } : Room).slots) (s₁.setTop (entryFrame m #[(.ref a1)] 1))
  refine Goes.step ?_ (fun _ k => castTop (ef_rm2 m a1) k)
  rcases hfv with ⟨rfl, rfl⟩ | ⟨b, rfl, rfl⟩
  · show Goes p e below _ (sF s₁ m 0 #[rv a1] [])
    refine Goes.step ?_ (fun _ k => XS.aloadN X0.here hx rfl (hb hby d2_0) rfl rfl k)
    show Goes p e below _ (sF s₁ m 1 #[rv a1] [(.ref a1)])
    obtain ⟨T1, X1, e1, st1⟩ := getF X0 hx hZ hown (host := "") (Or.inl (hw _ (List.mem_of_getElem? (i := 13) rfl))) Via.refl e0 F_a (g := (mkF m 1 #[rv a1] [(.ref a1)])) rfl rfl (hb hby d2_1)
    refine Goes.step ?_ st1
    show Goes p e below _ (sF T1 m 4 #[rv a1] [.null])
    refine Goes.step ?_ (fun _ k => XS.ifnullYes X1.here hx rfl (pc0 := 4) (pc' := 11) rfl (hb hby d2_4) rfl (by decide) (by decide) k)
    show Goes p e below _ (sF T1 m 11 #[rv a1] [])
    refine Goes.step ?_ (fun _ k => XS.iconst X1.here hx rfl (hb hby d2_11) k)
    show Goes p e below _ (sF T1 m 12 #[rv a1] [(.int (0 : Int32))])
    refine own_out X1 hx hlk hret rfl (Or.inl ⟨rfl, by simp, _, rfl⟩) (hb hby d2_12) ?_ (by decide) (by decide)
    show Q2 Z 0 h0 n0 _ T1.heap _
    rw [e1]
    exact ⟨rfl, N0, rfl⟩
  · show Goes p e below _ (sF s₁ m 0 #[rv a1] [])
    refine Goes.step ?_ (fun _ k => XS.aloadN X0.here hx rfl (hb hby d2_0) rfl rfl k)
    show Goes p e below _ (sF s₁ m 1 #[rv a1] [(.ref a1)])
    obtain ⟨T2, X2, e2, st2⟩ := getF X0 hx hZ hown (host := "") (Or.inl (hw _ (List.mem_of_getElem? (i := 13) rfl))) Via.refl e0 F_a (g := (mkF m 1 #[rv a1] [(.ref a1)])) rfl rfl (hb hby d2_1)
    refine Goes.step ?_ st2
    show Goes p e below _ (sF T2 m 4 #[rv a1] [(.ref b)])
    refine Goes.step ?_ (fun _ k => XS.ifnullNo X2.here hx rfl (hb hby d2_4) rfl k)
    show Goes p e below _ (sF T2 m 7 #[rv a1] [])
    refine Goes.step ?_ (fun _ k => XS.iconst X2.here hx rfl (hb hby d2_7) k)
    show Goes p e below _ (sF T2 m 8 #[rv a1] [(.int (1 : Int32))])
    refine Goes.step ?_ (fun _ k => XS.goto X2.here hx rfl (pc0 := 8) (pc' := 12) rfl (hb hby d2_8) (by decide) (by decide) k)
    show Goes p e below _ (sF T2 m 12 #[rv a1] [(.int (1 : Int32))])
    refine own_out X2 hx hlk hret rfl (Or.inl ⟨rfl, by simp, _, rfl⟩) (hb hby d2_12) ?_ (by decide) (by decide)
    show Q2 Z 1 h0 n0 _ T2.heap _
    rw [e2]
    exact ⟨rfl, N0, rfl⟩
theorem ef_rm0 (m : MethodId) (x0 : Int32) : entryFrame m #[(.int x0)] maxLocals = mkF m 0 #[iv x0, .unset, .unset, .unset] [] := by first | (simp [entryFrame, mkF, argsToLocals, Value.category, maxLocals]; done) | rfl
def Q0 (Z : State) (h0 : Heap) (n0 : Nat) (v : Option Value) (h : Heap) (L : List Loc) : Prop := v = some (.int 1) ∧ Fr n0 L
theorem pd__28I_29Lcom_2fexample_2fschenley_2fschenley_2fColumnType_3b : parseMethodDescriptor "(I)Lcom/example/schenley/schenley/ColumnType;" = some ⟨[.int], some (.object "com/example/schenley/schenley/ColumnType")⟩ := by decide +kernel
theorem pd__28_29Z : parseMethodDescriptor "()Z" = some ⟨[], some .boolean⟩ := by decide +kernel
set_option maxRecDepth 65536 in
set_option maxHeartbeats 40000000 in
theorem rm0 (l : Launch) (Z : State) (a0 : Array Value) (hw : ∀ d ∈ tables_1, d.before a0 Z = true) (ws : List Jvm.Cond) (p1 : Int32) (w0 : Addr) (w1 : Addr) (w2 : Addr) (w3 : Addr) (w4 : Addr) (w5 : Addr) (w6 : Addr) (w7 : Addr) (w8 : Addr) (a : Addr) (K : String) (fv : Value) (r : Int32) (h0 : Heap) (n0 : Nat) (Z0 : n0 ≤ h0.size) (S_SHORT : Sta Z h0 "com/example/schenley/schenley/ColumnType" "SHORT" "Lcom/example/schenley/schenley/ColumnType;" (.ref w0)) (S_INTEGER : Sta Z h0 "com/example/schenley/schenley/ColumnType" "INTEGER" "Lcom/example/schenley/schenley/ColumnType;" (.ref w1)) (S_LONG : Sta Z h0 "com/example/schenley/schenley/ColumnType" "LONG" "Lcom/example/schenley/schenley/ColumnType;" (.ref w2)) (S_BOOLEAN : Sta Z h0 "com/example/schenley/schenley/ColumnType" "BOOLEAN" "Lcom/example/schenley/schenley/ColumnType;" (.ref w3)) (S_STRING : Sta Z h0 "com/example/schenley/schenley/ColumnType" "STRING" "Lcom/example/schenley/schenley/ColumnType;" (.ref w4)) (S_DECIMAL : Sta Z h0 "com/example/schenley/schenley/ColumnType" "DECIMAL" "Lcom/example/schenley/schenley/ColumnType;" (.ref w5)) (S_LOCAL_DATE : Sta Z h0 "com/example/schenley/schenley/ColumnType" "LOCAL_DATE" "Lcom/example/schenley/schenley/ColumnType;" (.ref w6)) (S_LOCAL_DATE_TIME : Sta Z h0 "com/example/schenley/schenley/ColumnType" "LOCAL_DATE_TIME" "Lcom/example/schenley/schenley/ColumnType;" (.ref w7)) (S_INSTANT : Sta Z h0 "com/example/schenley/schenley/ColumnType" "INSTANT" "Lcom/example/schenley/schenley/ColumnType;" (.ref w8)) (E_a : Exa Z h0 a K) (hsel : (Jvm.Cond.selects K (⟨"com/example/schenley/schenley/ColumnType", "isWholeNumber", "()Z"⟩ : MethodName) (⟨"com/example/schenley/schenley/ColumnType", "isWholeNumber", "()Z"⟩ : MethodName)).before a0 Z = true) (F_a : Fld Z h0 a "com/example/schenley/schenley/ColumnType" "firstVersion" "Ljava/lang/Object;" fv) (hpick : pickV ((p1 &&& (2147483647 : Int32)) % (9 : Int32)) w0 w1 w2 w3 w4 w5 w6 w7 w8 = a) (hfv : (fv = .null ∧ r = 0) ∨ (∃ b, fv = .ref b ∧ r = 1)) (hr0 : ((p1 &&& (2147483647 : Int32)) % (9 : Int32)) = 0 → r = 1) (hr1 : ((p1 &&& (2147483647 : Int32)) % (9 : Int32)) = 1 → r = 1) (hr2 : ((p1 &&& (2147483647 : Int32)) % (9 : Int32)) = 2 → r = 1) (hr3 : ¬ ((p1 &&& (2147483647 : Int32)) % (9 : Int32)) = 0 → ¬ ((p1 &&& (2147483647 : Int32)) % (9 : Int32)) = 1 → ¬ ((p1 &&& (2147483647 : Int32)) % (9 : Int32)) = 2 → r = 0) :
    MetFree l x (head1 (Jvm.Cond.code x code maxLocals ret :: ws) room_1) (fun a U => a = #[(.int p1)] ∧ Z.Warmed39 U.vm ∧ U.heap = h0) (fun _ _ _ _ _ => True) (fun _ U o U' => ∃ v L, o = .returned v ∧ Q0 Z h0 n0 v U'.heap L ∧ FrameEnd U o U' L room_1.cells room_1.slots) := by
  refine MetFree.of_bodySF (plainFor_of_name pn_com_example_schenley_schenley_ColumnTypeIsWholeNumberPinLaw) hisR ?_
  intro p e s m args below meth c s₁ Bd hml0 hP hK
  obtain ⟨rfl, hZ, hh⟩ := hP
  have hx := Bd.exec
  have hby := Bd.bytes
  have hlk : meth.locks = false := BodyLoose.notSynchronized Bd
  have hml : c.maxLocals = 4 := hml0
  have hown : s.vm.findClass "com/example/schenley/schenley/ColumnTypeIsWholeNumberPinLaw" = some m.cls := findClass_of_methodNamed Bd.named
  have hnm := (name_of_methodNamed Bd.named Bd.method).1
  have X0 : Stand p l e room_1 s m #[(.int p1)] below meth c s₁ [] 0 0 := Stand.of_body Bd
  have e0 : s₁.heap = h0 := by rw [← hh, Bd.state]; rfl
  have N0 := Fr.nil n0
  have hret := Bd.returns
  show Goes p e below (fun o U' => ∃ v L, o = .returned v ∧ Q0 Z h0 n0 v U'.heap L ∧ FrameEnd s o U' L room_1.cells room_1.slots) (s₁.setTop (entryFrame m #[(.int p1)] maxLocals))
  refine Goes.step ?_ (fun _ k => castTop (ef_rm0 m p1) k)
  show Goes p e below _ (sF s₁ m 0 #[iv p1, .unset, .unset, .unset] [])
  refine Goes.step ?_ (fun _ k => XS.iloadN X0.here hx rfl (hb hby at_0) rfl  k)
  show Goes p e below _ (sF s₁ m 1 #[iv p1, .unset, .unset, .unset] [(.int p1)])
  refine Goes.step ?_ (fun _ k => X0.ldcI hx hown (mvT hZ (hw _ (List.mem_of_getElem? (i := 0) rfl))) rfl (hb hby at_1) k)
  show Goes p e below _ (sF s₁ m 3 #[iv p1, .unset, .unset, .unset] [(.int (2147483647 : Int32)), (.int p1)])
  refine Goes.step ?_ (fun _ k => XS.iand X0.here hx rfl (hb hby at_3) rfl k)
  show Goes p e below _ (sF s₁ m 4 #[iv p1, .unset, .unset, .unset] [(.int (p1 &&& (2147483647 : Int32)))])
  refine Goes.step ?_ (fun _ k => XS.bipush X0.here hx rfl (hb hby at_4) k)
  show Goes p e below _ (sF s₁ m 6 #[iv p1, .unset, .unset, .unset] [(.int (9 : Int32)), (.int (p1 &&& (2147483647 : Int32)))])
  refine Goes.step ?_ (fun _ k => iremM X0 hx rfl (hb hby at_6) rfl (by decide) k)
  show Goes p e below _ (sF s₁ m 7 #[iv p1, .unset, .unset, .unset] [(.int ((p1 &&& (2147483647 : Int32)) % (9 : Int32)))])
  refine Goes.step ?_ (fun _ k => XS.istoreN X0.here hx rfl (hb hby at_7) rfl (l' := #[iv p1, iv ((p1 &&& (2147483647 : Int32)) % (9 : Int32)), .unset, .unset]) rfl k)
  show Goes p e below _ (sF s₁ m 8 #[iv p1, iv ((p1 &&& (2147483647 : Int32)) % (9 : Int32)), .unset, .unset] [])
  refine Goes.step ?_ (fun _ k => XS.iloadN X0.here hx rfl (hb hby at_8) rfl  k)
  show Goes p e below _ (sF s₁ m 9 #[iv p1, iv ((p1 &&& (2147483647 : Int32)) % (9 : Int32)), .unset, .unset] [(.int ((p1 &&& (2147483647 : Int32)) % (9 : Int32)))])
  obtain ⟨_, _, ⟨T1, L1, k1, n1⟩, -, X1, ⟨Lc1, hQ1, l1, y1, z1⟩, st1⟩ := Jvm.LawKit.callS X0 hx (y := (⟨"com/example/schenley/schenley/ColumnTypeIsWholeNumberPinLaw", "pick", "(I)Lcom/example/schenley/schenley/ColumnType;"⟩ : MethodName)) hown (mvT hZ (hw _ (List.mem_of_getElem? (i := 1) rfl))) (mvT hZ (hw _ (List.mem_of_getElem? (i := 2) rfl))) (mvT hZ (hw _ (List.mem_of_getElem? (i := 3) rfl))) (mvT hZ (hw _ (List.mem_of_getElem? (i := 4) rfl))) (by decide) (backOf (W := 0) (rm1 l Z a0 hw [] ((p1 &&& (2147483647 : Int32)) % (9 : Int32)) w0 w1 w2 w3 w4 w5 w6 w7 w8 a h0 n0 Z0 S_SHORT S_INTEGER S_LONG S_BOOLEAN S_STRING S_DECIMAL S_LOCAL_DATE S_LOCAL_DATE_TIME S_INSTANT hpick) hZ (hw _ (List.mem_of_getElem? (i := 4) rfl)) (hw _ (List.mem_of_getElem? (i := 3) rfl)) (by decide) (by decide)) (g := (mkF m 9 #[iv p1, iv ((p1 &&& (2147483647 : Int32)) % (9 : Int32)), .unset, .unset] [(.int ((p1 &&& (2147483647 : Int32)) % (9 : Int32)))])) rfl (by rw [hml]; rfl) (argsL := [(.int ((p1 &&& (2147483647 : Int32)) % (9 : Int32)))]) (rest := []) (lenOf pd__28I_29Lcom_2fexample_2fschenley_2fschenley_2fColumnType_3b rfl) rfl (by show 2 * 0 + _ ≤ _; exact Nat.le_of_eq rfl) (hb hby at_9) (fun _ _ => ⟨rfl, e0, (by decide : 0 + 0 ≤ _), (by decide : 0 + 0 ≤ _)⟩)
  dsimp only [Pt.U, Pt.locs, Pt.cells, Pt.slots] at X1 l1 y1 z1 st1 hQ1
  subst l1 y1 z1
  obtain ⟨rfl, N1q, e1⟩ := hQ1
  have N1 := Fr.app N0 N1q
  refine Goes.step ?_ st1
  show Goes p e below _ (sF T1 m 12 #[iv p1, iv ((p1 &&& (2147483647 : Int32)) % (9 : Int32)), .unset, .unset] [(.ref a)])
  refine Goes.step ?_ (fun _ k => XS.astoreN X1.here hx rfl (hb hby at_12) rfl rfl (l' := #[iv p1, iv ((p1 &&& (2147483647 : Int32)) % (9 : Int32)), rv a, .unset]) rfl k)
  show Goes p e below _ (sF T1 m 13 #[iv p1, iv ((p1 &&& (2147483647 : Int32)) % (9 : Int32)), rv a, .unset] [])
  refine Goes.step ?_ (fun _ k => XS.iloadN X1.here hx rfl (hb hby at_13) rfl  k)
  show Goes p e below _ (sF T1 m 14 #[iv p1, iv ((p1 &&& (2147483647 : Int32)) % (9 : Int32)), rv a, .unset] [(.int ((p1 &&& (2147483647 : Int32)) % (9 : Int32)))])
  by_cases hc14_2 : ((p1 &&& (2147483647 : Int32)) % (9 : Int32)) = (0 : Int32)
  · refine Goes.step ?_ (fun _ k => XS.ifYes X1.here hx rfl (pc0 := 14) (pc' := 27) rfl (hb hby at_14) rfl ((if0 _ _).trans (teq hc14_2).1) (by decide) (by decide) k)
    show Goes p e below _ (sF T1 m 27 #[iv p1, iv ((p1 &&& (2147483647 : Int32)) % (9 : Int32)), rv a, .unset] [])
    refine Goes.step ?_ (fun _ k => XS.iconst X1.here hx rfl (hb hby at_27) k)
    show Goes p e below _ (sF T1 m 28 #[iv p1, iv ((p1 &&& (2147483647 : Int32)) % (9 : Int32)), rv a, .unset] [(.int (1 : Int32))])
    refine Goes.step ?_ (fun _ k => XS.goto X1.here hx rfl (pc0 := 28) (pc' := 32) rfl (hb hby at_28) (by decide) (by decide) k)
    show Goes p e below _ (sF T1 m 32 #[iv p1, iv ((p1 &&& (2147483647 : Int32)) % (9 : Int32)), rv a, .unset] [(.int (1 : Int32))])
    refine Goes.step ?_ (fun _ k => XS.istoreN X1.here hx rfl (hb hby at_32) rfl (l' := #[iv p1, iv ((p1 &&& (2147483647 : Int32)) % (9 : Int32)), rv a, iv (1 : Int32)]) rfl k)
    show Goes p e below _ (sF T1 m 33 #[iv p1, iv ((p1 &&& (2147483647 : Int32)) % (9 : Int32)), rv a, iv (1 : Int32)] [])
    refine Goes.step ?_ (fun _ k => XS.aloadN X1.here hx rfl (hb hby at_33) rfl rfl k)
    show Goes p e below _ (sF T1 m 34 #[iv p1, iv ((p1 &&& (2147483647 : Int32)) % (9 : Int32)), rv a, iv (1 : Int32)] [(.ref a)])
    obtain ⟨cq3, kq3, q3a, q3b, q3c⟩ := isOf hZ e1 E_a
    obtain ⟨_, _, ⟨T3, L3, k3, n3⟩, -, X3, ⟨Lc3, hQ3, l3, y3, z3⟩, st3⟩ := X1.virtualBack hx (y := (⟨"com/example/schenley/schenley/ColumnType", "isWholeNumber", "()Z"⟩ : MethodName)) (z := (⟨"com/example/schenley/schenley/ColumnType", "isWholeNumber", "()Z"⟩ : MethodName)) hown (mvT hZ (hw _ (List.mem_of_getElem? (i := 8) rfl))) (mvT hZ (hw _ (List.mem_of_getElem? (i := 9) rfl))) (notFace_of_selects (args := #[]) (mvT hZ hsel)) (mvT hZ hsel) (mvT hZ (hw _ (List.mem_of_getElem? (i := 10) rfl))) (by decide) (backOf (W := 0) (rm2 l Z a0 hw [] a fv r h0 n0 Z0 F_a hfv) hZ (hw _ (List.mem_of_getElem? (i := 12) rfl)) (hw _ (List.mem_of_getElem? (i := 6) rfl)) (by decide) (by decide)) q3a q3c (g := (mkF m 34 #[iv p1, iv ((p1 &&& (2147483647 : Int32)) % (9 : Int32)), rv a, iv (1 : Int32)] [(.ref a)])) rfl (by rw [hml]; rfl) (Steps.refl _) (argsL := []) (rest := []) (lenOf pd__28_29Z rfl) rfl (by show 2 * 0 + _ ≤ _; exact Nat.le_of_eq rfl) (hb hby at_34) (fun _ _ => ⟨rfl, e1, (by decide : 0 + 0 ≤ _), (by decide : 0 + 0 ≤ _)⟩)
    dsimp only [Pt.U, Pt.locs, Pt.cells, Pt.slots] at X3 l3 y3 z3 st3 hQ3
    subst l3 y3 z3
    obtain ⟨rfl, N3q, e3⟩ := hQ3
    have N3 := Fr.app N1 N3q
    refine Goes.step ?_ (fun _ k => st3.trans k)
    show Goes p e below _ (sF T3 m 37 #[iv p1, iv ((p1 &&& (2147483647 : Int32)) % (9 : Int32)), rv a, iv (1 : Int32)] [(.int r)])
    refine Goes.step ?_ (fun _ k => XS.iloadN X3.here hx rfl (hb hby at_37) rfl  k)
    show Goes p e below _ (sF T3 m 38 #[iv p1, iv ((p1 &&& (2147483647 : Int32)) % (9 : Int32)), rv a, iv (1 : Int32)] [(.int (1 : Int32)), (.int r)])
    refine Goes.step ?_ (fun _ k => XS.icmpNo X3.here hx rfl (hb hby at_38) rfl (teq (hr0 hc14_2)).2 k)
    show Goes p e below _ (sF T3 m 41 #[iv p1, iv ((p1 &&& (2147483647 : Int32)) % (9 : Int32)), rv a, iv (1 : Int32)] [])
    refine Goes.step ?_ (fun _ k => XS.iconst X3.here hx rfl (hb hby at_41) k)
    show Goes p e below _ (sF T3 m 42 #[iv p1, iv ((p1 &&& (2147483647 : Int32)) % (9 : Int32)), rv a, iv (1 : Int32)] [(.int (1 : Int32))])
    refine Goes.step ?_ (fun _ k => XS.goto X3.here hx rfl (pc0 := 42) (pc' := 46) rfl (hb hby at_42) (by decide) (by decide) k)
    show Goes p e below _ (sF T3 m 46 #[iv p1, iv ((p1 &&& (2147483647 : Int32)) % (9 : Int32)), rv a, iv (1 : Int32)] [(.int (1 : Int32))])
    refine own_out X3 hx hlk hret rfl (Or.inl ⟨rfl, by simp, _, rfl⟩) (hb hby at_46) ?_ (by decide) (by decide)
    show Q0 Z h0 n0 _ T3.heap _
    rw [e3]
    exact ⟨rfl, N3⟩
  · refine Goes.step ?_ (fun _ k => XS.ifNo X1.here hx rfl (hb hby at_14) rfl ((if0 _ _).trans (feq hc14_2).1) k)
    show Goes p e below _ (sF T1 m 17 #[iv p1, iv ((p1 &&& (2147483647 : Int32)) % (9 : Int32)), rv a, .unset] [])
    refine Goes.step ?_ (fun _ k => XS.iloadN X1.here hx rfl (hb hby at_17) rfl  k)
    show Goes p e below _ (sF T1 m 18 #[iv p1, iv ((p1 &&& (2147483647 : Int32)) % (9 : Int32)), rv a, .unset] [(.int ((p1 &&& (2147483647 : Int32)) % (9 : Int32)))])
    refine Goes.step ?_ (fun _ k => XS.iconst X1.here hx rfl (hb hby at_18) k)
    show Goes p e below _ (sF T1 m 19 #[iv p1, iv ((p1 &&& (2147483647 : Int32)) % (9 : Int32)), rv a, .unset] [(.int (1 : Int32)), (.int ((p1 &&& (2147483647 : Int32)) % (9 : Int32)))])
    by_cases hc19_4 : ((p1 &&& (2147483647 : Int32)) % (9 : Int32)) = (1 : Int32)
    · refine Goes.step ?_ (fun _ k => XS.icmpYes X1.here hx rfl (pc0 := 19) (pc' := 27) rfl (hb hby at_19) rfl (teq hc19_4).1 (by decide) (by decide) k)
      show Goes p e below _ (sF T1 m 27 #[iv p1, iv ((p1 &&& (2147483647 : Int32)) % (9 : Int32)), rv a, .unset] [])
      refine Goes.step ?_ (fun _ k => XS.iconst X1.here hx rfl (hb hby at_27) k)
      show Goes p e below _ (sF T1 m 28 #[iv p1, iv ((p1 &&& (2147483647 : Int32)) % (9 : Int32)), rv a, .unset] [(.int (1 : Int32))])
      refine Goes.step ?_ (fun _ k => XS.goto X1.here hx rfl (pc0 := 28) (pc' := 32) rfl (hb hby at_28) (by decide) (by decide) k)
      show Goes p e below _ (sF T1 m 32 #[iv p1, iv ((p1 &&& (2147483647 : Int32)) % (9 : Int32)), rv a, .unset] [(.int (1 : Int32))])
      refine Goes.step ?_ (fun _ k => XS.istoreN X1.here hx rfl (hb hby at_32) rfl (l' := #[iv p1, iv ((p1 &&& (2147483647 : Int32)) % (9 : Int32)), rv a, iv (1 : Int32)]) rfl k)
      show Goes p e below _ (sF T1 m 33 #[iv p1, iv ((p1 &&& (2147483647 : Int32)) % (9 : Int32)), rv a, iv (1 : Int32)] [])
      refine Goes.step ?_ (fun _ k => XS.aloadN X1.here hx rfl (hb hby at_33) rfl rfl k)
      show Goes p e below _ (sF T1 m 34 #[iv p1, iv ((p1 &&& (2147483647 : Int32)) % (9 : Int32)), rv a, iv (1 : Int32)] [(.ref a)])
      obtain ⟨cq5, kq5, q5a, q5b, q5c⟩ := isOf hZ e1 E_a
      obtain ⟨_, _, ⟨T5, L5, k5, n5⟩, -, X5, ⟨Lc5, hQ5, l5, y5, z5⟩, st5⟩ := X1.virtualBack hx (y := (⟨"com/example/schenley/schenley/ColumnType", "isWholeNumber", "()Z"⟩ : MethodName)) (z := (⟨"com/example/schenley/schenley/ColumnType", "isWholeNumber", "()Z"⟩ : MethodName)) hown (mvT hZ (hw _ (List.mem_of_getElem? (i := 8) rfl))) (mvT hZ (hw _ (List.mem_of_getElem? (i := 9) rfl))) (notFace_of_selects (args := #[]) (mvT hZ hsel)) (mvT hZ hsel) (mvT hZ (hw _ (List.mem_of_getElem? (i := 10) rfl))) (by decide) (backOf (W := 0) (rm2 l Z a0 hw [] a fv r h0 n0 Z0 F_a hfv) hZ (hw _ (List.mem_of_getElem? (i := 12) rfl)) (hw _ (List.mem_of_getElem? (i := 6) rfl)) (by decide) (by decide)) q5a q5c (g := (mkF m 34 #[iv p1, iv ((p1 &&& (2147483647 : Int32)) % (9 : Int32)), rv a, iv (1 : Int32)] [(.ref a)])) rfl (by rw [hml]; rfl) (Steps.refl _) (argsL := []) (rest := []) (lenOf pd__28_29Z rfl) rfl (by show 2 * 0 + _ ≤ _; exact Nat.le_of_eq rfl) (hb hby at_34) (fun _ _ => ⟨rfl, e1, (by decide : 0 + 0 ≤ _), (by decide : 0 + 0 ≤ _)⟩)
      dsimp only [Pt.U, Pt.locs, Pt.cells, Pt.slots] at X5 l5 y5 z5 st5 hQ5
      subst l5 y5 z5
      obtain ⟨rfl, N5q, e5⟩ := hQ5
      have N5 := Fr.app N1 N5q
      refine Goes.step ?_ (fun _ k => st5.trans k)
      show Goes p e below _ (sF T5 m 37 #[iv p1, iv ((p1 &&& (2147483647 : Int32)) % (9 : Int32)), rv a, iv (1 : Int32)] [(.int r)])
      refine Goes.step ?_ (fun _ k => XS.iloadN X5.here hx rfl (hb hby at_37) rfl  k)
      show Goes p e below _ (sF T5 m 38 #[iv p1, iv ((p1 &&& (2147483647 : Int32)) % (9 : Int32)), rv a, iv (1 : Int32)] [(.int (1 : Int32)), (.int r)])
      refine Goes.step ?_ (fun _ k => XS.icmpNo X5.here hx rfl (hb hby at_38) rfl (teq (hr1 hc19_4)).2 k)
      show Goes p e below _ (sF T5 m 41 #[iv p1, iv ((p1 &&& (2147483647 : Int32)) % (9 : Int32)), rv a, iv (1 : Int32)] [])
      refine Goes.step ?_ (fun _ k => XS.iconst X5.here hx rfl (hb hby at_41) k)
      show Goes p e below _ (sF T5 m 42 #[iv p1, iv ((p1 &&& (2147483647 : Int32)) % (9 : Int32)), rv a, iv (1 : Int32)] [(.int (1 : Int32))])
      refine Goes.step ?_ (fun _ k => XS.goto X5.here hx rfl (pc0 := 42) (pc' := 46) rfl (hb hby at_42) (by decide) (by decide) k)
      show Goes p e below _ (sF T5 m 46 #[iv p1, iv ((p1 &&& (2147483647 : Int32)) % (9 : Int32)), rv a, iv (1 : Int32)] [(.int (1 : Int32))])
      refine own_out X5 hx hlk hret rfl (Or.inl ⟨rfl, by simp, _, rfl⟩) (hb hby at_46) ?_ (by decide) (by decide)
      show Q0 Z h0 n0 _ T5.heap _
      rw [e5]
      exact ⟨rfl, N5⟩
    · refine Goes.step ?_ (fun _ k => XS.icmpNo X1.here hx rfl (hb hby at_19) rfl (feq hc19_4).1 k)
      show Goes p e below _ (sF T1 m 22 #[iv p1, iv ((p1 &&& (2147483647 : Int32)) % (9 : Int32)), rv a, .unset] [])
      refine Goes.step ?_ (fun _ k => XS.iloadN X1.here hx rfl (hb hby at_22) rfl  k)
      show Goes p e below _ (sF T1 m 23 #[iv p1, iv ((p1 &&& (2147483647 : Int32)) % (9 : Int32)), rv a, .unset] [(.int ((p1 &&& (2147483647 : Int32)) % (9 : Int32)))])
      refine Goes.step ?_ (fun _ k => XS.iconst X1.here hx rfl (hb hby at_23) k)
      show Goes p e below _ (sF T1 m 24 #[iv p1, iv ((p1 &&& (2147483647 : Int32)) % (9 : Int32)), rv a, .unset] [(.int (2 : Int32)), (.int ((p1 &&& (2147483647 : Int32)) % (9 : Int32)))])
      by_cases hc24_6 : ((p1 &&& (2147483647 : Int32)) % (9 : Int32)) = (2 : Int32)
      · refine Goes.step ?_ (fun _ k => XS.icmpNo X1.here hx rfl (hb hby at_24) rfl (teq hc24_6).2 k)
        show Goes p e below _ (sF T1 m 27 #[iv p1, iv ((p1 &&& (2147483647 : Int32)) % (9 : Int32)), rv a, .unset] [])
        refine Goes.step ?_ (fun _ k => XS.iconst X1.here hx rfl (hb hby at_27) k)
        show Goes p e below _ (sF T1 m 28 #[iv p1, iv ((p1 &&& (2147483647 : Int32)) % (9 : Int32)), rv a, .unset] [(.int (1 : Int32))])
        refine Goes.step ?_ (fun _ k => XS.goto X1.here hx rfl (pc0 := 28) (pc' := 32) rfl (hb hby at_28) (by decide) (by decide) k)
        show Goes p e below _ (sF T1 m 32 #[iv p1, iv ((p1 &&& (2147483647 : Int32)) % (9 : Int32)), rv a, .unset] [(.int (1 : Int32))])
        refine Goes.step ?_ (fun _ k => XS.istoreN X1.here hx rfl (hb hby at_32) rfl (l' := #[iv p1, iv ((p1 &&& (2147483647 : Int32)) % (9 : Int32)), rv a, iv (1 : Int32)]) rfl k)
        show Goes p e below _ (sF T1 m 33 #[iv p1, iv ((p1 &&& (2147483647 : Int32)) % (9 : Int32)), rv a, iv (1 : Int32)] [])
        refine Goes.step ?_ (fun _ k => XS.aloadN X1.here hx rfl (hb hby at_33) rfl rfl k)
        show Goes p e below _ (sF T1 m 34 #[iv p1, iv ((p1 &&& (2147483647 : Int32)) % (9 : Int32)), rv a, iv (1 : Int32)] [(.ref a)])
        obtain ⟨cq7, kq7, q7a, q7b, q7c⟩ := isOf hZ e1 E_a
        obtain ⟨_, _, ⟨T7, L7, k7, n7⟩, -, X7, ⟨Lc7, hQ7, l7, y7, z7⟩, st7⟩ := X1.virtualBack hx (y := (⟨"com/example/schenley/schenley/ColumnType", "isWholeNumber", "()Z"⟩ : MethodName)) (z := (⟨"com/example/schenley/schenley/ColumnType", "isWholeNumber", "()Z"⟩ : MethodName)) hown (mvT hZ (hw _ (List.mem_of_getElem? (i := 8) rfl))) (mvT hZ (hw _ (List.mem_of_getElem? (i := 9) rfl))) (notFace_of_selects (args := #[]) (mvT hZ hsel)) (mvT hZ hsel) (mvT hZ (hw _ (List.mem_of_getElem? (i := 10) rfl))) (by decide) (backOf (W := 0) (rm2 l Z a0 hw [] a fv r h0 n0 Z0 F_a hfv) hZ (hw _ (List.mem_of_getElem? (i := 12) rfl)) (hw _ (List.mem_of_getElem? (i := 6) rfl)) (by decide) (by decide)) q7a q7c (g := (mkF m 34 #[iv p1, iv ((p1 &&& (2147483647 : Int32)) % (9 : Int32)), rv a, iv (1 : Int32)] [(.ref a)])) rfl (by rw [hml]; rfl) (Steps.refl _) (argsL := []) (rest := []) (lenOf pd__28_29Z rfl) rfl (by show 2 * 0 + _ ≤ _; exact Nat.le_of_eq rfl) (hb hby at_34) (fun _ _ => ⟨rfl, e1, (by decide : 0 + 0 ≤ _), (by decide : 0 + 0 ≤ _)⟩)
        dsimp only [Pt.U, Pt.locs, Pt.cells, Pt.slots] at X7 l7 y7 z7 st7 hQ7
        subst l7 y7 z7
        obtain ⟨rfl, N7q, e7⟩ := hQ7
        have N7 := Fr.app N1 N7q
        refine Goes.step ?_ (fun _ k => st7.trans k)
        show Goes p e below _ (sF T7 m 37 #[iv p1, iv ((p1 &&& (2147483647 : Int32)) % (9 : Int32)), rv a, iv (1 : Int32)] [(.int r)])
        refine Goes.step ?_ (fun _ k => XS.iloadN X7.here hx rfl (hb hby at_37) rfl  k)
        show Goes p e below _ (sF T7 m 38 #[iv p1, iv ((p1 &&& (2147483647 : Int32)) % (9 : Int32)), rv a, iv (1 : Int32)] [(.int (1 : Int32)), (.int r)])
        refine Goes.step ?_ (fun _ k => XS.icmpNo X7.here hx rfl (hb hby at_38) rfl (teq (hr2 hc24_6)).2 k)
        show Goes p e below _ (sF T7 m 41 #[iv p1, iv ((p1 &&& (2147483647 : Int32)) % (9 : Int32)), rv a, iv (1 : Int32)] [])
        refine Goes.step ?_ (fun _ k => XS.iconst X7.here hx rfl (hb hby at_41) k)
        show Goes p e below _ (sF T7 m 42 #[iv p1, iv ((p1 &&& (2147483647 : Int32)) % (9 : Int32)), rv a, iv (1 : Int32)] [(.int (1 : Int32))])
        refine Goes.step ?_ (fun _ k => XS.goto X7.here hx rfl (pc0 := 42) (pc' := 46) rfl (hb hby at_42) (by decide) (by decide) k)
        show Goes p e below _ (sF T7 m 46 #[iv p1, iv ((p1 &&& (2147483647 : Int32)) % (9 : Int32)), rv a, iv (1 : Int32)] [(.int (1 : Int32))])
        refine own_out X7 hx hlk hret rfl (Or.inl ⟨rfl, by simp, _, rfl⟩) (hb hby at_46) ?_ (by decide) (by decide)
        show Q0 Z h0 n0 _ T7.heap _
        rw [e7]
        exact ⟨rfl, N7⟩
      · refine Goes.step ?_ (fun _ k => XS.icmpYes X1.here hx rfl (pc0 := 24) (pc' := 31) rfl (hb hby at_24) rfl (feq hc24_6).2 (by decide) (by decide) k)
        show Goes p e below _ (sF T1 m 31 #[iv p1, iv ((p1 &&& (2147483647 : Int32)) % (9 : Int32)), rv a, .unset] [])
        refine Goes.step ?_ (fun _ k => XS.iconst X1.here hx rfl (hb hby at_31) k)
        show Goes p e below _ (sF T1 m 32 #[iv p1, iv ((p1 &&& (2147483647 : Int32)) % (9 : Int32)), rv a, .unset] [(.int (0 : Int32))])
        refine Goes.step ?_ (fun _ k => XS.istoreN X1.here hx rfl (hb hby at_32) rfl (l' := #[iv p1, iv ((p1 &&& (2147483647 : Int32)) % (9 : Int32)), rv a, iv (0 : Int32)]) rfl k)
        show Goes p e below _ (sF T1 m 33 #[iv p1, iv ((p1 &&& (2147483647 : Int32)) % (9 : Int32)), rv a, iv (0 : Int32)] [])
        refine Goes.step ?_ (fun _ k => XS.aloadN X1.here hx rfl (hb hby at_33) rfl rfl k)
        show Goes p e below _ (sF T1 m 34 #[iv p1, iv ((p1 &&& (2147483647 : Int32)) % (9 : Int32)), rv a, iv (0 : Int32)] [(.ref a)])
        obtain ⟨cq8, kq8, q8a, q8b, q8c⟩ := isOf hZ e1 E_a
        obtain ⟨_, _, ⟨T8, L8, k8, n8⟩, -, X8, ⟨Lc8, hQ8, l8, y8, z8⟩, st8⟩ := X1.virtualBack hx (y := (⟨"com/example/schenley/schenley/ColumnType", "isWholeNumber", "()Z"⟩ : MethodName)) (z := (⟨"com/example/schenley/schenley/ColumnType", "isWholeNumber", "()Z"⟩ : MethodName)) hown (mvT hZ (hw _ (List.mem_of_getElem? (i := 8) rfl))) (mvT hZ (hw _ (List.mem_of_getElem? (i := 9) rfl))) (notFace_of_selects (args := #[]) (mvT hZ hsel)) (mvT hZ hsel) (mvT hZ (hw _ (List.mem_of_getElem? (i := 10) rfl))) (by decide) (backOf (W := 0) (rm2 l Z a0 hw [] a fv r h0 n0 Z0 F_a hfv) hZ (hw _ (List.mem_of_getElem? (i := 12) rfl)) (hw _ (List.mem_of_getElem? (i := 6) rfl)) (by decide) (by decide)) q8a q8c (g := (mkF m 34 #[iv p1, iv ((p1 &&& (2147483647 : Int32)) % (9 : Int32)), rv a, iv (0 : Int32)] [(.ref a)])) rfl (by rw [hml]; rfl) (Steps.refl _) (argsL := []) (rest := []) (lenOf pd__28_29Z rfl) rfl (by show 2 * 0 + _ ≤ _; exact Nat.le_of_eq rfl) (hb hby at_34) (fun _ _ => ⟨rfl, e1, (by decide : 0 + 0 ≤ _), (by decide : 0 + 0 ≤ _)⟩)
        dsimp only [Pt.U, Pt.locs, Pt.cells, Pt.slots] at X8 l8 y8 z8 st8 hQ8
        subst l8 y8 z8
        obtain ⟨rfl, N8q, e8⟩ := hQ8
        have N8 := Fr.app N1 N8q
        refine Goes.step ?_ (fun _ k => st8.trans k)
        show Goes p e below _ (sF T8 m 37 #[iv p1, iv ((p1 &&& (2147483647 : Int32)) % (9 : Int32)), rv a, iv (0 : Int32)] [(.int r)])
        refine Goes.step ?_ (fun _ k => XS.iloadN X8.here hx rfl (hb hby at_37) rfl  k)
        show Goes p e below _ (sF T8 m 38 #[iv p1, iv ((p1 &&& (2147483647 : Int32)) % (9 : Int32)), rv a, iv (0 : Int32)] [(.int (0 : Int32)), (.int r)])
        refine Goes.step ?_ (fun _ k => XS.icmpNo X8.here hx rfl (hb hby at_38) rfl (teq (hr3 hc14_2 hc19_4 hc24_6)).2 k)
        show Goes p e below _ (sF T8 m 41 #[iv p1, iv ((p1 &&& (2147483647 : Int32)) % (9 : Int32)), rv a, iv (0 : Int32)] [])
        refine Goes.step ?_ (fun _ k => XS.iconst X8.here hx rfl (hb hby at_41) k)
        show Goes p e below _ (sF T8 m 42 #[iv p1, iv ((p1 &&& (2147483647 : Int32)) % (9 : Int32)), rv a, iv (0 : Int32)] [(.int (1 : Int32))])
        refine Goes.step ?_ (fun _ k => XS.goto X8.here hx rfl (pc0 := 42) (pc' := 46) rfl (hb hby at_42) (by decide) (by decide) k)
        show Goes p e below _ (sF T8 m 46 #[iv p1, iv ((p1 &&& (2147483647 : Int32)) % (9 : Int32)), rv a, iv (0 : Int32)] [(.int (1 : Int32))])
        refine own_out X8 hx hlk hret rfl (Or.inl ⟨rfl, by simp, _, rfl⟩) (hb hby at_46) ?_ (by decide) (by decide)
        show Q0 Z h0 n0 _ T8.heap _
        rw [e8]
        exact ⟨rfl, N8⟩
theorem own_nine (x : Int32) : (x &&& (2147483647 : Int32)) % (9 : Int32) = 0 ∨ (x &&& (2147483647 : Int32)) % (9 : Int32) = 1 ∨ (x &&& (2147483647 : Int32)) % (9 : Int32) = 2 ∨ (x &&& (2147483647 : Int32)) % (9 : Int32) = 3 ∨ (x &&& (2147483647 : Int32)) % (9 : Int32) = 4 ∨ (x &&& (2147483647 : Int32)) % (9 : Int32) = 5 ∨ (x &&& (2147483647 : Int32)) % (9 : Int32) = 6 ∨ (x &&& (2147483647 : Int32)) % (9 : Int32) = 7 ∨ (x &&& (2147483647 : Int32)) % (9 : Int32) = 8 := by
  have h1 := c_mask x 2147483647 31 (by decide) (by decide)
  have h2 := (c_irem (x &&& (2147483647 : Int32)) 9 9 (by decide)).1 (by rw [h1]; omega)
  simp only [← Int32.toInt_inj]
  rw [h2]
  have e0 : (0 : Int32).toInt = 0 := by decide
  have e1 : (1 : Int32).toInt = 1 := by decide
  have e2 : (2 : Int32).toInt = 2 := by decide
  have e3 : (3 : Int32).toInt = 3 := by decide
  have e4 : (4 : Int32).toInt = 4 := by decide
  have e5 : (5 : Int32).toInt = 5 := by decide
  have e6 : (6 : Int32).toInt = 6 := by decide
  have e7 : (7 : Int32).toInt = 7 := by decide
  have e8 : (8 : Int32).toInt = 8 := by decide
  rw [e0, e1, e2, e3, e4, e5, e6, e7, e8]
  omega
theorem own_eqI {args : Array Value} {first s : State} {o : Option Outcome} {idx : List Nat} {t : Term} {n : Int32} (h : (Jvm.Cond.eq t (.int n)).value args first o s idx = some true) : t.eval args first o idx s = some (.int n) := by
  cases ht : t.eval args first o idx s with
  | none => simp [Cond.value, ht] at h
  | some v => cases v <;> simp [Cond.value, Term.eval, ht] at h ⊢ <;> exact h
theorem own_ne {s : State} {a b : Addr} {C n d : String} {x y : Int32} (h1 : s.fieldOf? a C n d = some (.int x)) (h2 : s.fieldOf? b C n d = some (.int y)) (hne : x ≠ y) : a ≠ b := fun e => by
  subst e; rw [h1] at h2; exact hne (Value.int.inj (Option.some.inj h2))
set_option maxRecDepth 65536 in
set_option maxHeartbeats 40000000 in
theorem comes_1 {Post : Tables → Env → Array Value → State → Outcome → State → Prop} (hpost : ∀ tb e args s v u, (limb_1_1.after args s (.returned v) u = true ∧ limb_1_2.after args s (.returned v) u = true ∧ True) → FrameEnd s (.returned v) u (Jvm.fieldLocs frame_1_writes args s ++ Jvm.arrayLocs frame_1_arrays args s ++ Jvm.staticLocs frame_1_statics s) 0 0 → Post tb e args s (.returned v) u) :
    ArmFor flags0 classFile x code maxLocals ret World_1 tables_1 room_1 Calls_1 rest_1 Pre_1 Post := by
  intro l hfl _ _ p e ha hc hk s m args below hf hA hF happ hP
  obtain ⟨hcalls, hrest, hpre⟩ := hP
  obtain ⟨-, -, -, hnamed, -, -, -, hat⟩ := (Spec.applies_iff hf).mp happ
  obtain ⟨hg, hn⟩ := and_e (Cond.before_iff.mp (show (Jvm.Cond.and given_1 narrow_1).before args s = true from hpre))
  obtain ⟨hcnt, g0⟩ := and_e hg
  have ga0 := g0
  obtain ⟨w0, rfl⟩ : ∃ w0 : Value, args = #[w0] := by
    have hs : args.size = 1 := by simpa [Cond.value, given_1] using hcnt
    obtain ⟨L⟩ := args
    match L, hs with
    | [w0], _ => exact ⟨w0, rfl⟩
  have hw := fun d (hd : d ∈ tables_1) => atoms_spec (ws := Jvm.Cond.code x code maxLocals ret :: tables_1) hat d (List.mem_cons_of_mem _ hd)
  have hfit : Fit s := fun {y c} hc i hi => by
    obtain ⟨ha, rfl⟩ := Array.getElem?_eq_some_iff.mp hc
    have q := List.all_eq_true.mp ((Array.all_eq_true_iff_forall_mem.mp hF) _ (Array.getElem_mem ha)) i (List.mem_range.mpr hi)
    simpa [Array.getElem?_eq_getElem hi] using q
  obtain ⟨i0, ei0⟩ := is_v ga0
  obtain rfl : w0 = (.int i0) := Option.some.inj ei0
  obtain ⟨xSHORT, hn0⟩ := and_e hn
  obtain ⟨oSHORT, hn1⟩ := and_e hn0
  obtain ⟨xBOOLEAN, hn2⟩ := and_e hn1
  obtain ⟨oBOOLEAN, hn3⟩ := and_e hn2
  obtain ⟨xLONG, hn4⟩ := and_e hn3
  obtain ⟨oLONG, hn5⟩ := and_e hn4
  obtain ⟨xINTEGER, hn6⟩ := and_e hn5
  obtain ⟨oINTEGER, hn7⟩ := and_e hn6
  obtain ⟨xLOCAL_DATE_TIME, hn8⟩ := and_e hn7
  obtain ⟨oLOCAL_DATE_TIME, hn9⟩ := and_e hn8
  obtain ⟨xSTRING, hn10⟩ := and_e hn9
  obtain ⟨oSTRING, hn11⟩ := and_e hn10
  obtain ⟨xINSTANT, hn12⟩ := and_e hn11
  obtain ⟨oINSTANT, hn13⟩ := and_e hn12
  obtain ⟨xLOCAL_DATE, hn14⟩ := and_e hn13
  obtain ⟨oLOCAL_DATE, hn15⟩ := and_e hn14
  obtain ⟨xDECIMAL, hn16⟩ := and_e hn15
  have oDECIMAL := hn16
  obtain ⟨w0, vSHORT⟩ := exa_v xSHORT
  have SSHORT := Sta.start vSHORT (Or.inr ⟨(hw _ (List.mem_of_getElem? (i := 6) rfl)), (hw _ (List.mem_of_getElem? (i := 7) rfl))⟩)
  have ESHORT := Exa.start vSHORT xSHORT
  obtain ⟨b0, uSHORT⟩ := exa_v oSHORT
  have FSHORT := Fld.start ((fld_at vSHORT).symm.trans uSHORT)
  obtain ⟨w1, vINTEGER⟩ := exa_v xINTEGER
  have SINTEGER := Sta.start vINTEGER (Or.inr ⟨(hw _ (List.mem_of_getElem? (i := 6) rfl)), (hw _ (List.mem_of_getElem? (i := 24) rfl))⟩)
  have EINTEGER := Exa.start vINTEGER xINTEGER
  obtain ⟨b1, uINTEGER⟩ := exa_v oINTEGER
  have FINTEGER := Fld.start ((fld_at vINTEGER).symm.trans uINTEGER)
  obtain ⟨w2, vLONG⟩ := exa_v xLONG
  have SLONG := Sta.start vLONG (Or.inr ⟨(hw _ (List.mem_of_getElem? (i := 6) rfl)), (hw _ (List.mem_of_getElem? (i := 20) rfl))⟩)
  have ELONG := Exa.start vLONG xLONG
  obtain ⟨b2, uLONG⟩ := exa_v oLONG
  have FLONG := Fld.start ((fld_at vLONG).symm.trans uLONG)
  obtain ⟨w3, vBOOLEAN⟩ := exa_v xBOOLEAN
  have SBOOLEAN := Sta.start vBOOLEAN (Or.inr ⟨(hw _ (List.mem_of_getElem? (i := 6) rfl)), (hw _ (List.mem_of_getElem? (i := 16) rfl))⟩)
  have EBOOLEAN := Exa.start vBOOLEAN xBOOLEAN
  have uBOOLEAN := null_v oBOOLEAN
  have FBOOLEAN := Fld.start ((fld_at vBOOLEAN).symm.trans uBOOLEAN)
  obtain ⟨w4, vSTRING⟩ := exa_v xSTRING
  have SSTRING := Sta.start vSTRING (Or.inr ⟨(hw _ (List.mem_of_getElem? (i := 6) rfl)), (hw _ (List.mem_of_getElem? (i := 32) rfl))⟩)
  have ESTRING := Exa.start vSTRING xSTRING
  have uSTRING := null_v oSTRING
  have FSTRING := Fld.start ((fld_at vSTRING).symm.trans uSTRING)
  obtain ⟨w5, vDECIMAL⟩ := exa_v xDECIMAL
  have SDECIMAL := Sta.start vDECIMAL (Or.inr ⟨(hw _ (List.mem_of_getElem? (i := 6) rfl)), (hw _ (List.mem_of_getElem? (i := 42) rfl))⟩)
  have EDECIMAL := Exa.start vDECIMAL xDECIMAL
  have uDECIMAL := null_v oDECIMAL
  have FDECIMAL := Fld.start ((fld_at vDECIMAL).symm.trans uDECIMAL)
  obtain ⟨w6, vLOCAL_DATE⟩ := exa_v xLOCAL_DATE
  have SLOCAL_DATE := Sta.start vLOCAL_DATE (Or.inr ⟨(hw _ (List.mem_of_getElem? (i := 6) rfl)), (hw _ (List.mem_of_getElem? (i := 40) rfl))⟩)
  have ELOCAL_DATE := Exa.start vLOCAL_DATE xLOCAL_DATE
  have uLOCAL_DATE := null_v oLOCAL_DATE
  have FLOCAL_DATE := Fld.start ((fld_at vLOCAL_DATE).symm.trans uLOCAL_DATE)
  obtain ⟨w7, vLOCAL_DATE_TIME⟩ := exa_v xLOCAL_DATE_TIME
  have SLOCAL_DATE_TIME := Sta.start vLOCAL_DATE_TIME (Or.inr ⟨(hw _ (List.mem_of_getElem? (i := 6) rfl)), (hw _ (List.mem_of_getElem? (i := 28) rfl))⟩)
  have ELOCAL_DATE_TIME := Exa.start vLOCAL_DATE_TIME xLOCAL_DATE_TIME
  have uLOCAL_DATE_TIME := null_v oLOCAL_DATE_TIME
  have FLOCAL_DATE_TIME := Fld.start ((fld_at vLOCAL_DATE_TIME).symm.trans uLOCAL_DATE_TIME)
  obtain ⟨w8, vINSTANT⟩ := exa_v xINSTANT
  have SINSTANT := Sta.start vINSTANT (Or.inr ⟨(hw _ (List.mem_of_getElem? (i := 6) rfl)), (hw _ (List.mem_of_getElem? (i := 36) rfl))⟩)
  have EINSTANT := Exa.start vINSTANT xINSTANT
  have uINSTANT := null_v oINSTANT
  have FINSTANT := Fld.start ((fld_at vINSTANT).symm.trans uINSTANT)
  obtain ⟨a, K, fv, r, Ea, hsel, Fa, hp1, hfv, h0', h1', h2', h3'⟩ : ∃ (a : Addr) (K : String) (fv : Value) (r : Int32), Exa s s.heap a K ∧ (Jvm.Cond.selects K (⟨"com/example/schenley/schenley/ColumnType", "isWholeNumber", "()Z"⟩ : MethodName) (⟨"com/example/schenley/schenley/ColumnType", "isWholeNumber", "()Z"⟩ : MethodName)).before #[(.int i0)] s = true ∧ Fld s s.heap a "com/example/schenley/schenley/ColumnType" "firstVersion" "Ljava/lang/Object;" fv ∧ pickV ((i0 &&& (2147483647 : Int32)) % (9 : Int32)) w0 w1 w2 w3 w4 w5 w6 w7 w8 = a ∧ ((fv = .null ∧ r = 0) ∨ (∃ b, fv = .ref b ∧ r = 1)) ∧ (((i0 &&& (2147483647 : Int32)) % (9 : Int32)) = 0 → r = 1) ∧ (((i0 &&& (2147483647 : Int32)) % (9 : Int32)) = 1 → r = 1) ∧ (((i0 &&& (2147483647 : Int32)) % (9 : Int32)) = 2 → r = 1) ∧ (¬ ((i0 &&& (2147483647 : Int32)) % (9 : Int32)) = 0 → ¬ ((i0 &&& (2147483647 : Int32)) % (9 : Int32)) = 1 → ¬ ((i0 &&& (2147483647 : Int32)) % (9 : Int32)) = 2 → r = 0) := by
    rcases own_nine i0 with q | q | q | q | q | q | q | q | q <;> rw [q]
    · exact ⟨w0, "com/example/schenley/schenley/ColumnType$1", .ref b0, 1, ESHORT, (hw _ (List.mem_of_getElem? (i := 11) rfl)), FSHORT, by simp [pickV], Or.inr ⟨b0, rfl, rfl⟩, by decide, by decide, by decide, by decide⟩
    · exact ⟨w1, "com/example/schenley/schenley/ColumnType$2", .ref b1, 1, EINTEGER, (hw _ (List.mem_of_getElem? (i := 25) rfl)), FINTEGER, by simp [pickV], Or.inr ⟨b1, rfl, rfl⟩, by decide, by decide, by decide, by decide⟩
    · exact ⟨w2, "com/example/schenley/schenley/ColumnType$3", .ref b2, 1, ELONG, (hw _ (List.mem_of_getElem? (i := 21) rfl)), FLONG, by simp [pickV], Or.inr ⟨b2, rfl, rfl⟩, by decide, by decide, by decide, by decide⟩
    · exact ⟨w3, "com/example/schenley/schenley/ColumnType$4", .null, 0, EBOOLEAN, (hw _ (List.mem_of_getElem? (i := 17) rfl)), FBOOLEAN, by simp [pickV], Or.inl ⟨rfl, rfl⟩, by decide, by decide, by decide, by decide⟩
    · exact ⟨w4, "com/example/schenley/schenley/ColumnType$5", .null, 0, ESTRING, (hw _ (List.mem_of_getElem? (i := 33) rfl)), FSTRING, by simp [pickV], Or.inl ⟨rfl, rfl⟩, by decide, by decide, by decide, by decide⟩
    · exact ⟨w5, "com/example/schenley/schenley/ColumnType$6", .null, 0, EDECIMAL, (hw _ (List.mem_of_getElem? (i := 43) rfl)), FDECIMAL, by simp [pickV], Or.inl ⟨rfl, rfl⟩, by decide, by decide, by decide, by decide⟩
    · exact ⟨w6, "com/example/schenley/schenley/ColumnType", .null, 0, ELOCAL_DATE, (hw _ (List.mem_of_getElem? (i := 29) rfl)), FLOCAL_DATE, by simp [pickV], Or.inl ⟨rfl, rfl⟩, by decide, by decide, by decide, by decide⟩
    · exact ⟨w7, "com/example/schenley/schenley/ColumnType", .null, 0, ELOCAL_DATE_TIME, (hw _ (List.mem_of_getElem? (i := 29) rfl)), FLOCAL_DATE_TIME, by simp [pickV], Or.inl ⟨rfl, rfl⟩, by decide, by decide, by decide, by decide⟩
    · exact ⟨w8, "com/example/schenley/schenley/ColumnType$7", .null, 0, EINSTANT, (hw _ (List.mem_of_getElem? (i := 37) rfl)), FINSTANT, by simp [pickV], Or.inl ⟨rfl, rfl⟩, by decide, by decide, by decide, by decide⟩
  obtain ⟨n, o, h1, h2, h3, _, L, rfl, ⟨rfl, N⟩, hq⟩ := rm0 l s _ hw tables_1 i0 w0 w1 w2 w3 w4 w5 w6 w7 w8 a K fv r s.heap s.heap.size (Nat.le_refl _) SSHORT SINTEGER SLONG SBOOLEAN SSTRING SDECIMAL SLOCAL_DATE SLOCAL_DATE_TIME SINSTANT Ea hsel Fa hp1 hfv h0' h1' h2' h3' p e ha hc hk s m _ below hf ((Spec.applies_iff_loose hf).mp happ).1 ⟨rfl, State.Warmed39.refl s, rfl⟩ trivial
  refine ⟨n, _, h1, h2, h3, hpost _ _ _ _ _ _ ⟨Cond.after_iff.mpr rfl, Cond.after_iff.mpr (eq_i res_at (Term.int_eval (1)) rfl), trivial⟩ ⟨hq.1, hq.2.1, (hq.2.2.sift fun y hy => Or.inr (N y hy)).mono (by decide) (by decide)⟩⟩
theorem main_1_1 : Claimed_1_1 := comes_1 fun _ _ _ _ _ _ h hF => ⟨h.1, hF⟩
theorem main_1_2 : Claimed_1_2 := comes_1 fun _ _ _ _ _ _ h hF => ⟨h.2.1, hF⟩
end Jvm.Pilot.@@N@@
namespace Jvm.Pilot.@@N@@
open Jvm Jvm.ClassFile Sem Op Lib Jvm.Free Jvm.Stand Jvm.Pilot.@@N@@.Jvm.D
/-! MADE BY PROGRAM (witnessworld.py) out of the Statement's table words and the real class files: 24 classes; the members and pool entries that the words name. The judged class is class 1, her method 1. -/
namespace start1
open Jvm.ClassFile
def u (s : String) : CpInfo := .utf8 (stringToUtf16 s)
/-- a pool by its gaps: so many unusable entries, then the entry; so many at the end -/
def gap : Nat → List CpInfo → List CpInfo
  | 0, r => r
  | n + 1, r => .unusable :: gap n r
def poolList (es : List (Nat × CpInfo)) (last : Nat) : List CpInfo := es.foldr (fun e r => gap e.1 (e.2 :: r)) (gap last [])
def pool (es : List (Nat × CpInfo)) (last : Nat) : Array CpInfo := ⟨poolList es last⟩
def fileOf (pool : Array CpInfo) (this : Nat) (attrs : Array Attribute := #[]) (ms : Array MethodInfo := #[]) (fl : Nat := 33) (sup : Nat := 0) (ifs : Array Nat := #[]) (fds : Array FieldInfo := #[]) : ClassFile where
  minorVersion := 0
  majorVersion := 65
  constantPool := pool
  accessFlags := fl
  thisClass := this
  superClass := sup
  interfaces := ifs
  fields := fds
  methods := ms
  attributes := attrs
def plain (name : String) (sup : Option ClassId) : Class where
  name := name
  kind := .ordinary
  loader := none
  accessFlags := 33
  super := sup
  interfaces := #[]
  cf := none
  fields := #[]
  methods := #[]
  instanceTypes := #[]
  staticTypes := #[]
  resolved := #[]
  callSites := []
  init := .initialized
  statics := none
  mirror := none

def pool0 : Array CpInfo := pool [(5, u "<init>"), (0, u "()V"), (1, .class_ 10), (1, u "java/lang/Object")] 113

def k0m0 : Method := { name := "<init>", desc := "()V", sig := { parameters := [], returnType := none }, accessFlags := 1, code := none }
/-- java/lang/Object -/
def k0 : Class := { plain "java/lang/Object" none with
  accessFlags := 33
  interfaces := #[]
  cf := some (fileOf pool0 8 #[] #[{ accessFlags := 1, nameIndex := 5, descriptorIndex := 6, attributes := #[] }] 33 0 #[] #[])
  fields := #[]
  methods := #[k0m0]
  instanceTypes := #[]
  staticTypes := #[]
  resolved := Array.replicate 124 none
  statics := none }

def pool1 : Array CpInfo := pool [(2, .class_ 4), (1, u "java/lang/Object"), (0, u "<init>"), (0, u "()V"), (0, .integer 2147483647), (0, .methodref 9 10), (0, .class_ 11), (0, .nameAndType 12 13), (0, u "com/example/schenley/schenley/ColumnTypeIsWholeNumberPinLaw"), (0, u "pick"), (0, u "(I)Lcom/example/schenley/schenley/ColumnType;"), (0, .methodref 15 16), (0, .class_ 17), (0, .nameAndType 18 19), (0, u "com/example/schenley/schenley/ColumnType"), (0, u "isWholeNumber"), (0, u "()Z"), (0, .fieldref 15 21), (0, .nameAndType 22 23), (0, u "SHORT"), (0, u "Lcom/example/schenley/schenley/ColumnType;"), (0, .fieldref 15 25), (0, .nameAndType 26 23), (0, u "INTEGER"), (0, .fieldref 15 28), (0, .nameAndType 29 23), (0, u "LONG"), (0, .fieldref 15 31), (0, .nameAndType 32 23), (0, u "BOOLEAN"), (0, .fieldref 15 34), (0, .nameAndType 35 23), (0, u "STRING"), (0, .fieldref 15 37), (0, .nameAndType 38 23), (0, u "DECIMAL"), (0, .fieldref 15 40), (0, .nameAndType 41 23), (0, u "LOCAL_DATE"), (0, .fieldref 15 43), (0, .nameAndType 44 23), (0, u "LOCAL_DATE_TIME"), (0, .fieldref 15 46), (0, .nameAndType 47 23), (0, u "INSTANT"), (2, u "law"), (0, u "(I)Z")] 3

def k1m0 : Method := { name := "<init>", desc := "()V", sig := { parameters := [], returnType := none }, accessFlags := 1, code := none }
def k1c1 : Code := { maxStack := 2, maxLocals := 4, code := code, exceptionTable := #[], attributes := #[] }
def k1m1 : Method := { name := "law", desc := "(I)Z", sig := { parameters := [.int], returnType := some .boolean }, accessFlags := 9, code := some k1c1 }
def k1c2 : Code := { maxStack := 2, maxLocals := 1, code := method_3_code, exceptionTable := #[], attributes := #[] }
def k1m2 : Method := { name := "pick", desc := "(I)Lcom/example/schenley/schenley/ColumnType;", sig := { parameters := [.int], returnType := some (.object "com/example/schenley/schenley/ColumnType") }, accessFlags := 10, code := some k1c2 }
/-- com/example/schenley/schenley/ColumnTypeIsWholeNumberPinLaw -/
def k1 : Class := { plain "com/example/schenley/schenley/ColumnTypeIsWholeNumberPinLaw" (some 0) with
  accessFlags := 49
  interfaces := #[]
  cf := some (fileOf pool1 9 #[] #[{ accessFlags := 1, nameIndex := 5, descriptorIndex := 6, attributes := #[] }, { accessFlags := 9, nameIndex := 50, descriptorIndex := 51, attributes := #[] }, { accessFlags := 10, nameIndex := 12, descriptorIndex := 13, attributes := #[] }] 49 2 #[] #[])
  fields := #[]
  methods := #[k1m0, k1m1, k1m2]
  instanceTypes := #[]
  staticTypes := #[]
  resolved := Array.replicate 55 none
  statics := none }

def pool2 : Array CpInfo := pool [(1, .class_ 2), (0, u "java/lang/constant/Constable"), (0, .class_ 4), (0, u "java/lang/Object")] 6

/-- java/lang/constant/Constable -/
def k2 : Class := { plain "java/lang/constant/Constable" (some 0) with
  accessFlags := 1537
  interfaces := #[]
  cf := some (fileOf pool2 1 #[] #[] 1537 3 #[] #[])
  fields := #[]
  methods := #[]
  instanceTypes := #[]
  staticTypes := #[]
  resolved := Array.replicate 11 none
  statics := none }

def pool3 : Array CpInfo := pool [(1, .class_ 2), (0, u "java/lang/Comparable"), (0, .class_ 4), (0, u "java/lang/Object")] 7

/-- java/lang/Comparable -/
def k3 : Class := { plain "java/lang/Comparable" (some 0) with
  accessFlags := 1537
  interfaces := #[]
  cf := some (fileOf pool3 1 #[] #[] 1537 3 #[] #[])
  fields := #[]
  methods := #[]
  instanceTypes := #[]
  staticTypes := #[]
  resolved := Array.replicate 12 none
  statics := none }

def pool4 : Array CpInfo := pool [(1, .class_ 2), (0, u "java/io/Serializable"), (0, .class_ 4), (0, u "java/lang/Object")] 2

/-- java/io/Serializable -/
def k4 : Class := { plain "java/io/Serializable" (some 0) with
  accessFlags := 1537
  interfaces := #[]
  cf := some (fileOf pool4 1 #[] #[] 1537 3 #[] #[])
  fields := #[]
  methods := #[]
  instanceTypes := #[]
  staticTypes := #[]
  resolved := Array.replicate 7 none
  statics := none }

def pool5 : Array CpInfo := pool [(2, .class_ 4), (1, u "java/lang/Enum"), (0, u "name"), (0, u "Ljava/lang/String;"), (2, u "ordinal"), (0, u "I"), (1, .class_ 14), (1, u "java/lang/Object"), (4, u "hash"), (86, .class_ 108), (1, u "java/lang/Enum$EnumDesc"), (2, .class_ 112), (0, u "java/lang/constant/Constable"), (0, .class_ 114), (0, u "java/lang/Comparable"), (0, .class_ 116), (0, u "java/io/Serializable")] 87

/-- java/lang/Enum -/
def k5 : Class := { plain "java/lang/Enum" (some 0) with
  accessFlags := 1057
  interfaces := #[2, 3, 4]
  cf := some (fileOf pool5 2 #[.nestMembers #[106]] #[] 1057 12 #[111, 113, 115] #[{ accessFlags := 18, nameIndex := 5, descriptorIndex := 6, attributes := #[] }, { accessFlags := 18, nameIndex := 9, descriptorIndex := 10, attributes := #[] }, { accessFlags := 2, nameIndex := 19, descriptorIndex := 10, attributes := #[] }])
  fields := #[{ name := "name", type := (.object "java/lang/String"), accessFlags := 18, slot := 0, constantValue := 0 }, { name := "ordinal", type := .int, accessFlags := 18, slot := 1, constantValue := 0 }, { name := "hash", type := .int, accessFlags := 2, slot := 2, constantValue := 0 }]
  methods := #[]
  instanceTypes := #[(.object "java/lang/String"), .int, .int]
  staticTypes := #[]
  resolved := Array.replicate 204 none
  statics := none }

def pool6 : Array CpInfo := pool [(1, .class_ 2), (0, u "com/example/schenley/schenley/ColumnType"), (2, u "SHORT"), (0, u "Lcom/example/schenley/schenley/ColumnType;"), (2, u "INTEGER"), (2, u "LONG"), (2, u "BOOLEAN"), (2, u "STRING"), (2, u "DECIMAL"), (2, u "LOCAL_DATE"), (2, u "LOCAL_DATE_TIME"), (2, u "INSTANT"), (2, u "$VALUES"), (0, u "[Lcom/example/schenley/schenley/ColumnType;"), (6, .class_ 43), (1, u "java/lang/Enum"), (8, u "sqlType"), (0, u "I"), (0, .fieldref 1 55), (0, .nameAndType 56 57), (0, u "firstVersion"), (0, u "Ljava/lang/Object;"), (8, u "javaTypes"), (0, u "Ljava/util/List;"), (2, u "BY_JAVA_TYPE"), (0, u "Ljava/util/Map;"), (93, .class_ 166), (0, u "com/example/schenley/schenley/ColumnType$1"), (13, .class_ 181), (0, u "com/example/schenley/schenley/ColumnType$2"), (8, .class_ 191), (0, u "com/example/schenley/schenley/ColumnType$3"), (8, .class_ 201), (0, u "com/example/schenley/schenley/ColumnType$4"), (5, .class_ 208), (0, u "com/example/schenley/schenley/ColumnType$5"), (2, .class_ 212), (0, u "com/example/schenley/schenley/ColumnType$6"), (11, .class_ 225), (0, u "com/example/schenley/schenley/ColumnType$7"), (25, u "()Z"), (30, u "isWholeNumber")] 30

def k6c0 : Code := { maxStack := 1, maxLocals := 1, code := prog_1_method_12_code, exceptionTable := #[], attributes := #[] }
def k6m0 : Method := { name := "isWholeNumber", desc := "()Z", sig := { parameters := [], returnType := some .boolean }, accessFlags := 0, code := some k6c0 }
/-- com/example/schenley/schenley/ColumnType -/
def k6 : Class := { plain "com/example/schenley/schenley/ColumnType" (some 5) with
  accessFlags := 16416
  interfaces := #[]
  cf := some (fileOf pool6 1 #[.nestMembers #[224, 211, 207, 200, 190, 180, 165]] #[{ accessFlags := 0, nameIndex := 282, descriptorIndex := 251, attributes := #[] }] 16416 41 #[] #[{ accessFlags := 16409, nameIndex := 5, descriptorIndex := 6, attributes := #[] }, { accessFlags := 16409, nameIndex := 9, descriptorIndex := 6, attributes := #[] }, { accessFlags := 16409, nameIndex := 12, descriptorIndex := 6, attributes := #[] }, { accessFlags := 16409, nameIndex := 15, descriptorIndex := 6, attributes := #[] }, { accessFlags := 16409, nameIndex := 18, descriptorIndex := 6, attributes := #[] }, { accessFlags := 16409, nameIndex := 21, descriptorIndex := 6, attributes := #[] }, { accessFlags := 16409, nameIndex := 24, descriptorIndex := 6, attributes := #[] }, { accessFlags := 16409, nameIndex := 27, descriptorIndex := 6, attributes := #[] }, { accessFlags := 16409, nameIndex := 30, descriptorIndex := 6, attributes := #[] }, { accessFlags := 26, nameIndex := 70, descriptorIndex := 71, attributes := #[] }, { accessFlags := 18, nameIndex := 52, descriptorIndex := 53, attributes := #[] }, { accessFlags := 18, nameIndex := 56, descriptorIndex := 57, attributes := #[] }, { accessFlags := 18, nameIndex := 66, descriptorIndex := 67, attributes := #[] }, { accessFlags := 4122, nameIndex := 33, descriptorIndex := 34, attributes := #[] }])
  fields := #[{ name := "SHORT", type := (.object "com/example/schenley/schenley/ColumnType"), accessFlags := 16409, slot := 0, constantValue := 0 }, { name := "INTEGER", type := (.object "com/example/schenley/schenley/ColumnType"), accessFlags := 16409, slot := 1, constantValue := 0 }, { name := "LONG", type := (.object "com/example/schenley/schenley/ColumnType"), accessFlags := 16409, slot := 2, constantValue := 0 }, { name := "BOOLEAN", type := (.object "com/example/schenley/schenley/ColumnType"), accessFlags := 16409, slot := 3, constantValue := 0 }, { name := "STRING", type := (.object "com/example/schenley/schenley/ColumnType"), accessFlags := 16409, slot := 4, constantValue := 0 }, { name := "DECIMAL", type := (.object "com/example/schenley/schenley/ColumnType"), accessFlags := 16409, slot := 5, constantValue := 0 }, { name := "LOCAL_DATE", type := (.object "com/example/schenley/schenley/ColumnType"), accessFlags := 16409, slot := 6, constantValue := 0 }, { name := "LOCAL_DATE_TIME", type := (.object "com/example/schenley/schenley/ColumnType"), accessFlags := 16409, slot := 7, constantValue := 0 }, { name := "INSTANT", type := (.object "com/example/schenley/schenley/ColumnType"), accessFlags := 16409, slot := 8, constantValue := 0 }, { name := "BY_JAVA_TYPE", type := (.object "java/util/Map"), accessFlags := 26, slot := 9, constantValue := 0 }, { name := "sqlType", type := .int, accessFlags := 18, slot := 3, constantValue := 0 }, { name := "firstVersion", type := (.object "java/lang/Object"), accessFlags := 18, slot := 4, constantValue := 0 }, { name := "javaTypes", type := (.object "java/util/List"), accessFlags := 18, slot := 5, constantValue := 0 }, { name := "$VALUES", type := (.array (.object "com/example/schenley/schenley/ColumnType")), accessFlags := 4122, slot := 10, constantValue := 0 }]
  methods := #[k6m0]
  instanceTypes := #[(.object "java/lang/String"), .int, .int, .int, (.object "java/lang/Object"), (.object "java/util/List")]
  staticTypes := #[(.object "com/example/schenley/schenley/ColumnType"), (.object "com/example/schenley/schenley/ColumnType"), (.object "com/example/schenley/schenley/ColumnType"), (.object "com/example/schenley/schenley/ColumnType"), (.object "com/example/schenley/schenley/ColumnType"), (.object "com/example/schenley/schenley/ColumnType"), (.object "com/example/schenley/schenley/ColumnType"), (.object "com/example/schenley/schenley/ColumnType"), (.object "com/example/schenley/schenley/ColumnType"), (.object "java/util/Map"), (.array (.object "com/example/schenley/schenley/ColumnType"))]
  resolved := Array.replicate 313 none
  statics := some 0 }

def pool7 : Array CpInfo := pool [(2, .class_ 4), (1, u "com/example/schenley/schenley/ColumnType"), (28, .class_ 34), (0, u "com/example/schenley/schenley/ColumnType$1")] 20

/-- com/example/schenley/schenley/ColumnType$1 -/
def k7 : Class := { plain "com/example/schenley/schenley/ColumnType$1" (some 6) with
  accessFlags := 16432
  interfaces := #[]
  cf := some (fileOf pool7 33 #[.nestHost 2] #[] 16432 2 #[] #[])
  fields := #[]
  methods := #[]
  instanceTypes := #[(.object "java/lang/String"), .int, .int, .int, (.object "java/lang/Object"), (.object "java/util/List")]
  staticTypes := #[]
  resolved := Array.replicate 55 none
  statics := none }

def pool8 : Array CpInfo := pool [(2, .class_ 4), (1, u "com/example/schenley/schenley/ColumnType"), (27, .class_ 33), (0, u "com/example/schenley/schenley/ColumnType$4")] 16

/-- com/example/schenley/schenley/ColumnType$4 -/
def k8 : Class := { plain "com/example/schenley/schenley/ColumnType$4" (some 6) with
  accessFlags := 16432
  interfaces := #[]
  cf := some (fileOf pool8 32 #[.nestHost 2] #[] 16432 2 #[] #[])
  fields := #[]
  methods := #[]
  instanceTypes := #[(.object "java/lang/String"), .int, .int, .int, (.object "java/lang/Object"), (.object "java/util/List")]
  staticTypes := #[]
  resolved := Array.replicate 50 none
  statics := none }

def pool9 : Array CpInfo := pool [(2, .class_ 4), (1, u "com/example/schenley/schenley/ColumnType"), (28, .class_ 34), (0, u "com/example/schenley/schenley/ColumnType$3")] 20

/-- com/example/schenley/schenley/ColumnType$3 -/
def k9 : Class := { plain "com/example/schenley/schenley/ColumnType$3" (some 6) with
  accessFlags := 16432
  interfaces := #[]
  cf := some (fileOf pool9 33 #[.nestHost 2] #[] 16432 2 #[] #[])
  fields := #[]
  methods := #[]
  instanceTypes := #[(.object "java/lang/String"), .int, .int, .int, (.object "java/lang/Object"), (.object "java/util/List")]
  staticTypes := #[]
  resolved := Array.replicate 55 none
  statics := none }

def pool10 : Array CpInfo := pool [(2, .class_ 4), (1, u "com/example/schenley/schenley/ColumnType"), (28, .class_ 34), (0, u "com/example/schenley/schenley/ColumnType$2")] 20

/-- com/example/schenley/schenley/ColumnType$2 -/
def k10 : Class := { plain "com/example/schenley/schenley/ColumnType$2" (some 6) with
  accessFlags := 16432
  interfaces := #[]
  cf := some (fileOf pool10 33 #[.nestHost 2] #[] 16432 2 #[] #[])
  fields := #[]
  methods := #[]
  instanceTypes := #[(.object "java/lang/String"), .int, .int, .int, (.object "java/lang/Object"), (.object "java/util/List")]
  staticTypes := #[]
  resolved := Array.replicate 55 none
  statics := none }

def pool11 : Array CpInfo := pool [(2, .class_ 4), (1, u "com/example/schenley/schenley/ColumnType"), (16, .class_ 22), (0, u "com/example/schenley/schenley/ColumnType$5")] 15

/-- com/example/schenley/schenley/ColumnType$5 -/
def k11 : Class := { plain "com/example/schenley/schenley/ColumnType$5" (some 6) with
  accessFlags := 16432
  interfaces := #[]
  cf := some (fileOf pool11 21 #[.nestHost 2] #[] 16432 2 #[] #[])
  fields := #[]
  methods := #[]
  instanceTypes := #[(.object "java/lang/String"), .int, .int, .int, (.object "java/lang/Object"), (.object "java/util/List")]
  staticTypes := #[]
  resolved := Array.replicate 38 none
  statics := none }

def pool12 : Array CpInfo := pool [(2, .class_ 4), (1, u "com/example/schenley/schenley/ColumnType"), (30, .class_ 36), (0, u "com/example/schenley/schenley/ColumnType$7")] 18

/-- com/example/schenley/schenley/ColumnType$7 -/
def k12 : Class := { plain "com/example/schenley/schenley/ColumnType$7" (some 6) with
  accessFlags := 16432
  interfaces := #[]
  cf := some (fileOf pool12 35 #[.nestHost 2] #[] 16432 2 #[] #[])
  fields := #[]
  methods := #[]
  instanceTypes := #[(.object "java/lang/String"), .int, .int, .int, (.object "java/lang/Object"), (.object "java/util/List")]
  staticTypes := #[]
  resolved := Array.replicate 55 none
  statics := none }

def pool13 : Array CpInfo := pool [(2, .class_ 4), (1, u "com/example/schenley/schenley/ColumnType"), (20, .class_ 26), (0, u "com/example/schenley/schenley/ColumnType$6")] 18

/-- com/example/schenley/schenley/ColumnType$6 -/
def k13 : Class := { plain "com/example/schenley/schenley/ColumnType$6" (some 6) with
  accessFlags := 16432
  interfaces := #[]
  cf := some (fileOf pool13 25 #[.nestHost 2] #[] 16432 2 #[] #[])
  fields := #[]
  methods := #[]
  instanceTypes := #[(.object "java/lang/String"), .int, .int, .int, (.object "java/lang/Object"), (.object "java/util/List")]
  staticTypes := #[]
  resolved := Array.replicate 45 none
  statics := none }

def pool14 : Array CpInfo := pool [(2, .class_ 4), (1, u "java/lang/Object"), (0, u "<init>"), (0, u "()V"), (1, .class_ 10), (1, u "java/lang/Number"), (2, .class_ 14), (0, u "java/io/Serializable"), (0, u "serialVersionUID"), (0, u "J")] 20

def k14m0 : Method := { name := "<init>", desc := "()V", sig := { parameters := [], returnType := none }, accessFlags := 1, code := none }
/-- java/lang/Number -/
def k14 : Class := { plain "java/lang/Number" (some 0) with
  accessFlags := 1057
  interfaces := #[4]
  cf := some (fileOf pool14 8 #[] #[{ accessFlags := 1, nameIndex := 5, descriptorIndex := 6, attributes := #[] }] 1057 2 #[13] #[{ accessFlags := 26, nameIndex := 15, descriptorIndex := 16, attributes := #[] }])
  fields := #[{ name := "serialVersionUID", type := .long, accessFlags := 26, slot := 0, constantValue := 0 }]
  methods := #[k14m0]
  instanceTypes := #[]
  staticTypes := #[.long]
  resolved := Array.replicate 37 none
  statics := none }

def pool15 : Array CpInfo := pool [(1, .class_ 2), (0, u "java/lang/Short"), (82, .class_ 87), (1, u "java/lang/Short$ShortCache"), (15, .class_ 104), (0, u "java/lang/Number"), (2, u "value"), (0, u "S"), (33, u "TYPE"), (0, u "Ljava/lang/Class;"), (0, .class_ 145), (0, u "java/lang/Comparable"), (0, .class_ 147), (0, u "java/lang/constant/Constable"), (0, u "MIN_VALUE"), (2, u "MAX_VALUE"), (3, u "SIZE"), (0, u "I"), (1, u "BYTES"), (1, u "serialVersionUID"), (0, u "J")] 60

/-- java/lang/Short -/
def k15 : Class := { plain "java/lang/Short" (some 14) with
  accessFlags := 49
  interfaces := #[3, 2]
  cf := some (fileOf pool15 1 #[.nestMembers #[85]] #[] 49 103 #[144, 146] #[{ accessFlags := 25, nameIndex := 148, descriptorIndex := 108, attributes := #[] }, { accessFlags := 25, nameIndex := 151, descriptorIndex := 108, attributes := #[] }, { accessFlags := 25, nameIndex := 142, descriptorIndex := 143, attributes := #[] }, { accessFlags := 18, nameIndex := 107, descriptorIndex := 108, attributes := #[] }, { accessFlags := 25, nameIndex := 155, descriptorIndex := 156, attributes := #[] }, { accessFlags := 25, nameIndex := 158, descriptorIndex := 156, attributes := #[] }, { accessFlags := 26, nameIndex := 160, descriptorIndex := 161, attributes := #[] }])
  fields := #[{ name := "MIN_VALUE", type := .short, accessFlags := 25, slot := 0, constantValue := 0 }, { name := "MAX_VALUE", type := .short, accessFlags := 25, slot := 1, constantValue := 0 }, { name := "TYPE", type := (.object "java/lang/Class"), accessFlags := 25, slot := 2, constantValue := 0 }, { name := "value", type := .short, accessFlags := 18, slot := 0, constantValue := 0 }, { name := "SIZE", type := .int, accessFlags := 25, slot := 3, constantValue := 0 }, { name := "BYTES", type := .int, accessFlags := 25, slot := 4, constantValue := 0 }, { name := "serialVersionUID", type := .long, accessFlags := 26, slot := 5, constantValue := 0 }]
  methods := #[]
  instanceTypes := #[.short]
  staticTypes := #[.short, .short, (.object "java/lang/Class"), .int, .int, .long]
  resolved := Array.replicate 222 none
  statics := none }

def pool16 : Array CpInfo := pool [(1, .class_ 2), (0, u "java/lang/constant/ConstantDesc"), (0, .class_ 4), (0, u "java/lang/Object")] 32

/-- java/lang/constant/ConstantDesc -/
def k16 : Class := { plain "java/lang/constant/ConstantDesc" (some 0) with
  accessFlags := 1537
  interfaces := #[]
  cf := some (fileOf pool16 1 #[] #[] 1537 3 #[] #[])
  fields := #[]
  methods := #[]
  instanceTypes := #[]
  staticTypes := #[]
  resolved := Array.replicate 37 none
  statics := none }

def pool17 : Array CpInfo := pool [(1, .class_ 2), (0, u "java/lang/Integer"), (16, u "digits"), (0, u "[C"), (64, u "DigitOnes"), (0, u "[B"), (2, u "DigitTens"), (99, .class_ 190), (0, u "java/lang/Integer$IntegerCache"), (3, u "I"), (8, .class_ 204), (0, u "java/lang/Number"), (2, u "value"), (94, u "TYPE"), (0, u "Ljava/lang/Class;"), (0, .class_ 305), (0, u "java/lang/Comparable"), (0, .class_ 307), (0, u "java/lang/constant/Constable"), (0, .class_ 309), (0, u "java/lang/constant/ConstantDesc"), (0, u "MIN_VALUE"), (1, u "MAX_VALUE"), (3, u "SIZE"), (1, u "BYTES"), (1, u "serialVersionUID"), (0, u "J")] 131

/-- java/lang/Integer -/
def k17 : Class := { plain "java/lang/Integer" (some 14) with
  accessFlags := 49
  interfaces := #[3, 2, 16]
  cf := some (fileOf pool17 1 #[.nestMembers #[189]] #[] 49 203 #[304, 306, 308] #[{ accessFlags := 25, nameIndex := 310, descriptorIndex := 194, attributes := #[] }, { accessFlags := 25, nameIndex := 312, descriptorIndex := 194, attributes := #[] }, { accessFlags := 25, nameIndex := 302, descriptorIndex := 303, attributes := #[] }, { accessFlags := 24, nameIndex := 19, descriptorIndex := 20, attributes := #[] }, { accessFlags := 24, nameIndex := 89, descriptorIndex := 86, attributes := #[] }, { accessFlags := 24, nameIndex := 85, descriptorIndex := 86, attributes := #[] }, { accessFlags := 18, nameIndex := 207, descriptorIndex := 194, attributes := #[] }, { accessFlags := 25, nameIndex := 316, descriptorIndex := 194, attributes := #[] }, { accessFlags := 25, nameIndex := 318, descriptorIndex := 194, attributes := #[] }, { accessFlags := 26, nameIndex := 320, descriptorIndex := 321, attributes := #[] }])
  fields := #[{ name := "MIN_VALUE", type := .int, accessFlags := 25, slot := 0, constantValue := 0 }, { name := "MAX_VALUE", type := .int, accessFlags := 25, slot := 1, constantValue := 0 }, { name := "TYPE", type := (.object "java/lang/Class"), accessFlags := 25, slot := 2, constantValue := 0 }, { name := "digits", type := (.array .char), accessFlags := 24, slot := 3, constantValue := 0 }, { name := "DigitTens", type := (.array .byte), accessFlags := 24, slot := 4, constantValue := 0 }, { name := "DigitOnes", type := (.array .byte), accessFlags := 24, slot := 5, constantValue := 0 }, { name := "value", type := .int, accessFlags := 18, slot := 0, constantValue := 0 }, { name := "SIZE", type := .int, accessFlags := 25, slot := 6, constantValue := 0 }, { name := "BYTES", type := .int, accessFlags := 25, slot := 7, constantValue := 0 }, { name := "serialVersionUID", type := .long, accessFlags := 26, slot := 8, constantValue := 0 }]
  methods := #[]
  instanceTypes := #[.int]
  staticTypes := #[.int, .int, (.object "java/lang/Class"), (.array .char), (.array .byte), (.array .byte), .int, .int, .long]
  resolved := Array.replicate 453 none
  statics := none }

def pool18 : Array CpInfo := pool [(1, .class_ 2), (0, u "java/lang/Long"), (232, .class_ 237), (1, u "java/lang/Long$LongCache"), (33, .class_ 272), (0, u "java/lang/Number"), (2, u "value"), (0, u "J"), (84, u "TYPE"), (0, u "Ljava/lang/Class;"), (0, .class_ 364), (0, u "java/lang/Comparable"), (0, .class_ 366), (0, u "java/lang/constant/Constable"), (0, .class_ 368), (0, u "java/lang/constant/ConstantDesc"), (0, u "MIN_VALUE"), (1, u "MAX_VALUE"), (4, u "SIZE"), (0, u "I"), (1, u "BYTES"), (1, u "serialVersionUID")] 142

/-- java/lang/Long -/
def k18 : Class := { plain "java/lang/Long" (some 14) with
  accessFlags := 49
  interfaces := #[3, 2, 16]
  cf := some (fileOf pool18 1 #[.nestMembers #[235]] #[] 49 271 #[363, 365, 367] #[{ accessFlags := 25, nameIndex := 369, descriptorIndex := 276, attributes := #[] }, { accessFlags := 25, nameIndex := 371, descriptorIndex := 276, attributes := #[] }, { accessFlags := 25, nameIndex := 361, descriptorIndex := 362, attributes := #[] }, { accessFlags := 18, nameIndex := 275, descriptorIndex := 276, attributes := #[] }, { accessFlags := 25, nameIndex := 376, descriptorIndex := 377, attributes := #[] }, { accessFlags := 25, nameIndex := 379, descriptorIndex := 377, attributes := #[] }, { accessFlags := 26, nameIndex := 381, descriptorIndex := 276, attributes := #[] }])
  fields := #[{ name := "MIN_VALUE", type := .long, accessFlags := 25, slot := 0, constantValue := 0 }, { name := "MAX_VALUE", type := .long, accessFlags := 25, slot := 1, constantValue := 0 }, { name := "TYPE", type := (.object "java/lang/Class"), accessFlags := 25, slot := 2, constantValue := 0 }, { name := "value", type := .long, accessFlags := 18, slot := 0, constantValue := 0 }, { name := "SIZE", type := .int, accessFlags := 25, slot := 3, constantValue := 0 }, { name := "BYTES", type := .int, accessFlags := 25, slot := 4, constantValue := 0 }, { name := "serialVersionUID", type := .long, accessFlags := 26, slot := 5, constantValue := 0 }]
  methods := #[]
  instanceTypes := #[.long]
  staticTypes := #[.long, .long, (.object "java/lang/Class"), .int, .int, .long]
  resolved := Array.replicate 524 none
  statics := none }

def pool19 : Array CpInfo := pool [(1, u "java/lang/Cloneable"), (0, .class_ 1), (0, u "java/lang/Object"), (0, .class_ 3)] 3

/-- java/lang/Cloneable -/
def k19 : Class := { plain "java/lang/Cloneable" (some 0) with
  accessFlags := 1537
  interfaces := #[]
  cf := some (fileOf pool19 2 #[] #[] 1537 4 #[] #[])
  fields := #[]
  methods := #[]
  instanceTypes := #[]
  staticTypes := #[]
  resolved := Array.replicate 8 none
  statics := none }

/-- the primitive byte -/
def k20 : Class := { plain "byte" none with kind := .primitive 'B', accessFlags := 0x411 }
/-- [B -/
def k21 : Class := { plain "[B" (some 0) with kind := .array 20 .byte, interfaces := #[19, 4], accessFlags := 1041 }

/-- the primitive int -/
def k22 : Class := { plain "int" none with kind := .primitive 'I', accessFlags := 0x411 }
/-- [I -/
def k23 : Class := { plain "[I" (some 0) with kind := .array 22 .int, interfaces := #[19, 4], accessFlags := 1041 }

def heap : Heap := #[{ cls := 6, slots := #[.ref 1, .ref 2, .ref 3, .ref 4, .ref 5, .ref 6, .ref 7, .ref 8, .ref 9, .null, .null], vm := .statics 6 },
  { cls := 7, slots := #[.null, .int 0, .int 0, .int 0, .ref 10, .null], vm := .none },
  { cls := 10, slots := #[.null, .int 1, .int 0, .int 0, .ref 11, .null], vm := .none },
  { cls := 9, slots := #[.null, .int 2, .int 0, .int 0, .ref 12, .null], vm := .none },
  { cls := 8, slots := #[.null, .int 3, .int 0, .int 0, .null, .null], vm := .none },
  { cls := 11, slots := #[.null, .int 4, .int 0, .int 0, .null, .null], vm := .none },
  { cls := 13, slots := #[.null, .int 5, .int 0, .int 0, .null, .null], vm := .none },
  { cls := 6, slots := #[.null, .int 6, .int 0, .int 0, .null, .null], vm := .none },
  { cls := 6, slots := #[.null, .int 7, .int 0, .int 0, .null, .null], vm := .none },
  { cls := 12, slots := #[.null, .int 8, .int 0, .int 0, .null, .null], vm := .none },
  { cls := 15, slots := #[.int 1], vm := .none },
  { cls := 17, slots := #[.int 1], vm := .none },
  { cls := 18, slots := #[.long 1], vm := .none }]
def classes : Array Class := #[k0, k1, k2, k3, k4, k5, k6, k7, k8, k9, k10, k11, k12, k13, k14, k15, k16, k17, k18, k19, k20, k21, k22, k23]
def interned : List (Array UInt16 × Addr) := []
def slotsUsed : Nat := 68
def theMethod : MethodId := ⟨1, 1⟩
def args0 : Array Value := #[.int 5]
def aboutOver (below : List Frame) : State where
  vm := { classes := classes, interned := interned.toArray }
  heap := heap
  slotsUsed := slotsUsed
  threads := #[{ frames := .invoking theMethod args0 :: below }]
def below0 : List Frame := [.native { method := ⟨0, 0⟩, args := #[] }]
def about1 : State := aboutOver below0
def p0 : Program := .bare "" "" ""
def e0 : Env := launch0.env 0 0 0
theorem w_frames : about1.frames = Frame.invoking theMethod args0 :: below0 := rfl
set_option maxRecDepth 65536 in
theorem w_args : argsFit about1.vm theMethod args0 = true := by decide +kernel
set_option maxRecDepth 65536 in
theorem w_heap : heapFits about1 = true := by decide +kernel
set_option maxRecDepth 65536 in
theorem w_runnable : about1.curStatus? = some .runnable := by decide +kernel
set_option maxRecDepth 65536 in
theorem w_alone : about1.alone = true := by decide +kernel
set_option maxRecDepth 65536 in
theorem w_named : about1.methodNamed? x = some theMethod := by decide +kernel
set_option maxRecDepth 65536 in
theorem w_hears : about1.hears theMethod below0 = true := by decide +kernel
set_option maxRecDepth 65536 in
theorem w_ripe : about1.ripe theMethod args0 below0 = true := by decide +kernel
theorem w_running : about1.status = .running := rfl
set_option maxRecDepth 65536 in
theorem w_room : about1.hasRoom e0.platform room_1 = true :=
  launch0.hasRoom_least _ room_1 (by decide +kernel) (by decide +kernel) (by decide +kernel) (by decide +kernel) (by decide +kernel) (by decide +kernel)
theorem allAtoms_all (ts : List Jvm.Cond) (a : Array Jvm.Value) (st : Jvm.State) : (allAtoms ts).before a st = ts.all (fun c => c.before a st) := by
  induction ts with
  | nil => rfl
  | cons c t ih =>
    show (Jvm.Cond.and c (allAtoms t)).before a st = _
    rw [Jvm.Cond.before_and, ih, List.all_cons]
def words1 : List Jvm.Cond := Jvm.Cond.code x code maxLocals ret :: tables_1
/-- a 'code' word, met by the world's own term for the bytes: nothing is compared byte by byte -/
theorem code_word {y : MethodName} {bytes : ByteArray} {mx : Nat} {rt : Option FieldType} {a : Array Value} {s : State} {m : MethodId} {meth : Method} {c : Code} (h1 : s.methodNamed? y = some m) (h2 : s.vm.method? m = some meth) (h3 : meth.code = some c) (h4 : c.code = bytes)
    (h5 : (c.maxLocals == mx && c.exceptionTable.isEmpty && decide (c.maxStack ≤ mostOperands) && decide (meth.sig.returnType = rt) && !meth.locks && decide (parseMethodDescriptor y.desc = some meth.sig)) = true) : (Jvm.Cond.code y bytes mx rt).before a s = true := by
  simp only [Bool.and_eq_true, beq_iff_eq, Bool.not_eq_true', decide_eq_true_eq] at h5
  obtain ⟨⟨⟨⟨⟨g1, g2⟩, g3⟩, g4⟩, g5⟩, g6⟩ := h5
  simp [Cond.before, Cond.holds, Cond.value, h1, h2, h3, h4, g1, g2, g3, g4, g5, g6]
def isCode : Jvm.Cond → Bool
  | .code _ _ _ _ => true
  | _ => false
theorem all_split {L : List Jvm.Cond} {P : Jvm.Cond → Bool} (h1 : L.all (fun c => isCode c || P c) = true) (h2 : ∀ c ∈ L.filter isCode, P c = true) : L.all P = true := by
  refine List.all_eq_true.mpr fun c hc => ?_
  have h := List.all_eq_true.mp h1 c hc
  rcases Bool.eq_false_or_eq_true (isCode c) with hi | hi
  · exact h2 c (List.mem_filter.mpr ⟨hc, hi⟩)
  · simpa [hi] using h
set_option maxRecDepth 65536 in
theorem w_c0 : (Jvm.Cond.code x code maxLocals ret).before args0 about1 = true := code_word (m := ⟨1, 1⟩) (meth := k1m1) (c := k1c1) (by decide +kernel) rfl rfl rfl (by decide +kernel)
set_option maxRecDepth 65536 in
theorem w_c1 : (Jvm.Cond.code ({ cls := "com/example/schenley/schenley/ColumnTypeIsWholeNumberPinLaw", name := "pick", desc := "(I)Lcom/example/schenley/schenley/ColumnType;" } : Jvm.MethodName) method_3_code (1 : Nat) (Option.some (Jvm.ClassFile.FieldType.object "com/example/schenley/schenley/ColumnType"))).before args0 about1 = true := code_word (m := ⟨1, 2⟩) (meth := k1m2) (c := k1c2) (by decide +kernel) rfl rfl rfl (by decide +kernel)
set_option maxRecDepth 65536 in
theorem w_c2 : (Jvm.Cond.code ({ cls := "com/example/schenley/schenley/ColumnType", name := "isWholeNumber", desc := "()Z" } : Jvm.MethodName) prog_1_method_12_code (1 : Nat) (Option.some Jvm.ClassFile.FieldType.boolean)).before args0 about1 = true := code_word (m := ⟨6, 0⟩) (meth := k6m0) (c := k6c0) (by decide +kernel) rfl rfl rfl (by decide +kernel)
def codes1 : List Jvm.Cond := [Jvm.Cond.code x code maxLocals ret, Jvm.Cond.code ({ cls := "com/example/schenley/schenley/ColumnTypeIsWholeNumberPinLaw", name := "pick", desc := "(I)Lcom/example/schenley/schenley/ColumnType;" } : Jvm.MethodName) method_3_code (1 : Nat) (Option.some (Jvm.ClassFile.FieldType.object "com/example/schenley/schenley/ColumnType")), Jvm.Cond.code ({ cls := "com/example/schenley/schenley/ColumnType", name := "isWholeNumber", desc := "()Z" } : Jvm.MethodName) prog_1_method_12_code (1 : Nat) (Option.some Jvm.ClassFile.FieldType.boolean)]
set_option maxRecDepth 65536 in
theorem codes_eq : words1.filter isCode = codes1 := rfl
theorem w_codes : ∀ c ∈ words1.filter isCode, c.before args0 about1 = true := by
  rw [codes_eq]
  intro c hc
  simp only [codes1, List.mem_cons, List.not_mem_nil, or_false] at hc
  rcases hc with rfl | rfl | rfl
  · exact w_c0
  · exact w_c1
  · exact w_c2
set_option maxRecDepth 65536 in
theorem w_t1 : (words1.take 24).all (fun c => isCode c || c.before args0 about1) = true := by decide +kernel
set_option maxRecDepth 65536 in
theorem w_t2 : (words1.drop 24).all (fun c => isCode c || c.before args0 about1) = true := by decide +kernel
theorem w_tables : (allAtoms (Jvm.Cond.code x code maxLocals ret :: tables_1)).before args0 about1 = true := by
  rw [allAtoms_all]
  show words1.all (fun c => c.before args0 about1) = true
  refine all_split ?_ w_codes
  rw [← List.take_append_drop 24 words1, List.all_append, w_t1, w_t2]
  rfl
set_option maxRecDepth 65536 in
theorem w_case : (Jvm.Cond.and given_1 narrow_1).before args0 about1 = true := by decide +kernel
theorem w_applies : (headSpec (Jvm.Cond.code x code maxLocals ret :: tables_1) room_1).applies x e0.platform about1 = true :=
  (Spec.applies_iff w_frames).mpr ⟨w_running, w_runnable, w_alone, w_named, w_hears, w_ripe, w_room, w_tables⟩
theorem atStart : AtStart classFile x code maxLocals ret World_1 tables_1 room_1 Calls_1 rest_1 Pre_1 launch0 p0 e0 about1 theMethod args0 below0 :=
  ⟨lists_1, trivial, launch0.admits_env _ _ _, launch0.least_env, fairChoices_fair.cas, fairChoices_fair.clock, w_frames, w_args, w_heap, w_applies, trivial, trivial, w_case⟩
end start1
theorem witness_1 : WitnessClaimed_1 := ⟨start1.p0, start1.e0, start1.about1, start1.theMethod, start1.args0, start1.below0, start1.atStart⟩
end Jvm.Pilot.@@N@@
