import JvmDerived
import JvmDerived.Pilot.@@N@@Statement
import JvmDerived.Pilot.@@N@@Code
set_option linter.unusedVariables false
set_option linter.unusedSimpArgs false
namespace Jvm.Pilot.@@N@@
open Jvm Jvm.ClassFile Sem Op Lib Jvm.Free Jvm.Stand Jvm.LawKit Jvm.RoadKit Bundle Jvm.Pilot.@@N@@.Jvm.D
abbrev sF (T : State) (m : MethodId) (pc : Nat) (Ls : Array Slot) (st : List Value) : State := T.setTop (mkF m pc Ls st)
/-- from F the run goes on to the method's end, and W holds there -/
def Goes (p : Program) (e : Env) (below : List Frame) (W : Outcome → State → Prop) (F : State) : Prop := ∃ s₂ o, Steps p.tables e below F s₂ ∧ s₂.status = .running ∧ Ended s₂ below o ∧ W o s₂
theorem Goes.step {p : Program} {e : Env} {below : List Frame} {W : Outcome → State → Prop} {F F' : State} (g : Goes p e below W F') (h : ∀ t, Steps p.tables e below F' t → Steps p.tables e below F t) : Goes p e below W F := by
  obtain ⟨s₂, o, h1, h2⟩ := g
  exact ⟨s₂, o, h _ h1, h2⟩
section Fin
variable {p : Program} {l : Launch} {e : Env} {R : Room} {s : State} {m : MethodId} {args : Array Value} {below : List Frame} {meth : Method} {c : Code} {T : State} {locs : List Loc} {cells slots : Nat}
theorem own_out (X : Stand p l e R s m args below meth c T locs cells slots) (hx : p.tables.exec = Jvm.exec) (hlk : meth.locks = false) {pc : Nat} {Ls : Array Slot} {w : Value} {t : FieldType} {i : Instr} {rest : List Value} {P : Option Value → Heap → List Loc → Prop} {C N : Nat} (hret : meth.sig.returnType = some t) (hn : narrow t w = w)
    (hi : (i = .ireturn ∧ (t = .int ∨ t = .boolean ∨ t = .byte ∨ t = .char ∨ t = .short) ∧ ∃ z, w = .int z) ∨ (i = .lreturn ∧ t = .long ∧ ∃ z, w = .long z) ∨ (i = .dreturn ∧ t = .double ∧ ∃ z, w = .double z) ∨ (i = .freturn ∧ t = .float ∧ ∃ z, w = .float z) ∨ (i = .areturn ∧ t.isReference = true ∧ w.isRef = true))
    (hd : decode c.code pc = .ok (i, 1)) (hP : P (some w) T.heap locs) (hC : cells ≤ C) (hN : slots ≤ N) :
    Goes p e below (fun o U' => ∃ v L, o = .returned v ∧ P v U'.heap L ∧ FrameEnd s o U' L C N) (T.setTop (mkF m pc Ls (w :: rest))) := by
  obtain ⟨fs, hr, hrun, hended, hW, hsame⟩ := X.leave (v := some w) (fun h => by rw [hret] at h; cases h)
  exact ⟨_, _, retOut X hx hret hn hi hd hr, hrun, hended, _, _, rfl, hP, ⟨_, rfl⟩, hW, hsame.mono hC hN⟩
theorem own_outV (X : Stand p l e R s m args below meth c T locs cells slots) (hx : p.tables.exec = Jvm.exec) (hlk : meth.locks = false) {pc : Nat} {Ls : Array Slot} {P : Option Value → Heap → List Loc → Prop} {C N : Nat} (hret : meth.sig.returnType = none)
    (hd : decode c.code pc = .ok (.return_, 1)) (hP : P none T.heap locs) (hC : cells ≤ C) (hN : slots ≤ N) :
    Goes p e below (fun o U' => ∃ v L, o = .returned v ∧ P v U'.heap L ∧ FrameEnd s o U' L C N) (T.setTop (mkF m pc Ls [])) := by
  obtain ⟨fs, hr, hrun, hended, hW, hsame⟩ := X.leave (v := none) (fun _ => rfl)
  exact ⟨_, _, X.returnOut hx hret hd hr, hrun, hended, _, _, rfl, hP, ⟨_, rfl⟩, hW, hsame.mono hC hN⟩
theorem own_outW {vm₁ : Vm} {n : Nat} (X : Stand p l e R (s.setVm vm₁) m args below meth c T locs cells slots) (hS : s.Since vm₁ n) (hn : n ≤ T.heap.size) (hx : p.tables.exec = Jvm.exec) (hlk : meth.locks = false) {pc : Nat} {Ls : Array Slot} {w : Value} {t : FieldType} {i : Instr} {rest : List Value} {P : Option Value → Heap → List Loc → Prop} {C N : Nat} (hret : meth.sig.returnType = some t) (hnw : narrow t w = w)
    (hi : (i = .ireturn ∧ (t = .int ∨ t = .boolean ∨ t = .byte ∨ t = .char ∨ t = .short) ∧ ∃ z, w = .int z) ∨ (i = .lreturn ∧ t = .long ∧ ∃ z, w = .long z) ∨ (i = .dreturn ∧ t = .double ∧ ∃ z, w = .double z) ∨ (i = .freturn ∧ t = .float ∧ ∃ z, w = .float z) ∨ (i = .areturn ∧ t.isReference = true ∧ w.isRef = true))
    (hd : decode c.code pc = .ok (i, 1)) (hP : P (some w) T.heap locs) (hC : cells ≤ C) (hN : slots ≤ N) :
    Goes p e below (fun o U' => ∃ v L, o = .returned v ∧ P v U'.heap L ∧ ReturnedEndW s o U' L C N) (T.setTop (mkF m pc Ls (w :: rest))) := by
  obtain ⟨fs, hr, hrun, hended, h1, h2, h3, h4⟩ := X.leaveW hS hn (v := some w) (fun h => by rw [hret] at h; cases h)
  exact ⟨_, _, retOut X hx hret hnw hi hd hr, hrun, hended, _, _, rfl, hP, h1, h2, h3, h4.mono hC hN⟩
theorem own_outVW {vm₁ : Vm} {n : Nat} (X : Stand p l e R (s.setVm vm₁) m args below meth c T locs cells slots) (hS : s.Since vm₁ n) (hn : n ≤ T.heap.size) (hx : p.tables.exec = Jvm.exec) (hlk : meth.locks = false) {pc : Nat} {Ls : Array Slot} {P : Option Value → Heap → List Loc → Prop} {C N : Nat} (hret : meth.sig.returnType = none)
    (hd : decode c.code pc = .ok (.return_, 1)) (hP : P none T.heap locs) (hC : cells ≤ C) (hN : slots ≤ N) :
    Goes p e below (fun o U' => ∃ v L, o = .returned v ∧ P v U'.heap L ∧ ReturnedEndW s o U' L C N) (T.setTop (mkF m pc Ls [])) := by
  obtain ⟨fs, hr, hrun, hended, h1, h2, h3, h4⟩ := X.leaveW hS hn (v := none) (fun _ => rfl)
  exact ⟨_, _, X.returnOut hx hret hd hr, hrun, hended, _, _, rfl, hP, h1, h2, h3, h4.mono hC hN⟩
theorem own_lrem {g : JFrame} {target : State} (X : Stand p l e R s m args below meth c T locs cells slots) (hx : p.tables.exec = Jvm.exec) (hg : g.method = m) {x y : Int64} {rest : List Value} (hd : decode c.code g.pc = .ok (.lrem, 1)) (hs : g.stack = .long y :: .long x :: rest) (hy : y ≠ 0)
    (hr : Steps p.tables e below (T.setTop { g with pc := g.pc + 1, stack := .long (x % y) :: rest }) target) : Steps p.tables e below (T.setTop g) target := by
  have q : x - x / y * y = x % y := lrem_mod x y
  exact XS.lrem X.here hx hg hd hs hy (by rw [q]; exact hr)
end Fin
def pickV (k : Int32) (w0 w1 w2 w3 w4 w5 w6 w7 w8 w9 w10 : Addr) : Addr := if k = 0 then w0 else if k = 1 then w1 else if k = 2 then w2 else if k = 3 then w3 else if k = 4 then w4 else if k = 5 then w5 else if k = 6 then w6 else if k = 7 then w7 else if k = 8 then w8 else if k = 9 then w9 else w10
def maxV (k : Int32) : Int32 := if k = 0 then 13 else if k = 1 then 1 else if k = 2 then 4 else if k = 3 then 7 else if k = 4 then 6 else if k = 5 then 4 else if k = 6 then 2 else if k = 7 then 2 else if k = 8 then 3 else if k = 9 then 1 else 2
def ansV (k mx : Int32) : Int32 := if k < 0 then 0 else if mx < k then 0 else 1
theorem pn_com_example_partition_partition_protocol_ApiAnswersPinLaw : plainName "com/example/partition/partition/protocol/ApiAnswersPinLaw" = true := by first | (simp [plainName, overriddenIn]; done) | decide +kernel
theorem ef_rm1 (m : MethodId) (x0 : Int32) : entryFrame m #[(.int x0)] 1 = mkF m 0 #[iv x0] [] := by first | (simp [entryFrame, mkF, argsToLocals, Value.category]; done) | rfl
def Q1 (Z : State) (r : Addr) (h0 : Heap) (n0 : Nat) (v : Option Value) (h : Heap) (L : List Loc) : Prop := v = some (.ref r) ∧ Fr n0 L ∧ h = h0
theorem d1_0 : decode method_3_code 0 = .ok (.iload_n 0, 1) := by decide +kernel
theorem d1_1 : decode method_3_code 1 = .ok (.ifCond .ne 7, 3) := by decide +kernel
theorem d1_4 : decode method_3_code 4 = .ok (.getstatic 24, 3) := by decide +kernel
theorem d1_7 : decode method_3_code 7 = .ok (.areturn, 1) := by decide +kernel
theorem d1_8 : decode method_3_code 8 = .ok (.iload_n 0, 1) := by decide +kernel
theorem d1_9 : decode method_3_code 9 = .ok (.iconst 1, 1) := by decide +kernel
theorem d1_10 : decode method_3_code 10 = .ok (.if_icmp .ne 7, 3) := by decide +kernel
theorem d1_13 : decode method_3_code 13 = .ok (.getstatic 28, 3) := by decide +kernel
theorem d1_16 : decode method_3_code 16 = .ok (.areturn, 1) := by decide +kernel
theorem d1_17 : decode method_3_code 17 = .ok (.iload_n 0, 1) := by decide +kernel
theorem d1_18 : decode method_3_code 18 = .ok (.iconst 2, 1) := by decide +kernel
theorem d1_19 : decode method_3_code 19 = .ok (.if_icmp .ne 7, 3) := by decide +kernel
theorem d1_22 : decode method_3_code 22 = .ok (.getstatic 31, 3) := by decide +kernel
theorem d1_25 : decode method_3_code 25 = .ok (.areturn, 1) := by decide +kernel
theorem d1_26 : decode method_3_code 26 = .ok (.iload_n 0, 1) := by decide +kernel
theorem d1_27 : decode method_3_code 27 = .ok (.iconst 3, 1) := by decide +kernel
theorem d1_28 : decode method_3_code 28 = .ok (.if_icmp .ne 7, 3) := by decide +kernel
theorem d1_31 : decode method_3_code 31 = .ok (.getstatic 34, 3) := by decide +kernel
theorem d1_34 : decode method_3_code 34 = .ok (.areturn, 1) := by decide +kernel
theorem d1_35 : decode method_3_code 35 = .ok (.iload_n 0, 1) := by decide +kernel
theorem d1_36 : decode method_3_code 36 = .ok (.iconst 4, 1) := by decide +kernel
theorem d1_37 : decode method_3_code 37 = .ok (.if_icmp .ne 7, 3) := by decide +kernel
theorem d1_40 : decode method_3_code 40 = .ok (.getstatic 37, 3) := by decide +kernel
theorem d1_43 : decode method_3_code 43 = .ok (.areturn, 1) := by decide +kernel
theorem d1_44 : decode method_3_code 44 = .ok (.iload_n 0, 1) := by decide +kernel
theorem d1_45 : decode method_3_code 45 = .ok (.iconst 5, 1) := by decide +kernel
theorem d1_46 : decode method_3_code 46 = .ok (.if_icmp .ne 7, 3) := by decide +kernel
theorem d1_49 : decode method_3_code 49 = .ok (.getstatic 40, 3) := by decide +kernel
theorem d1_52 : decode method_3_code 52 = .ok (.areturn, 1) := by decide +kernel
theorem d1_53 : decode method_3_code 53 = .ok (.iload_n 0, 1) := by decide +kernel
theorem d1_54 : decode method_3_code 54 = .ok (.bipush 6, 2) := by decide +kernel
theorem d1_56 : decode method_3_code 56 = .ok (.if_icmp .ne 7, 3) := by decide +kernel
theorem d1_59 : decode method_3_code 59 = .ok (.getstatic 43, 3) := by decide +kernel
theorem d1_62 : decode method_3_code 62 = .ok (.areturn, 1) := by decide +kernel
theorem d1_63 : decode method_3_code 63 = .ok (.iload_n 0, 1) := by decide +kernel
theorem d1_64 : decode method_3_code 64 = .ok (.bipush 7, 2) := by decide +kernel
theorem d1_66 : decode method_3_code 66 = .ok (.if_icmp .ne 7, 3) := by decide +kernel
theorem d1_69 : decode method_3_code 69 = .ok (.getstatic 46, 3) := by decide +kernel
theorem d1_72 : decode method_3_code 72 = .ok (.areturn, 1) := by decide +kernel
theorem d1_73 : decode method_3_code 73 = .ok (.iload_n 0, 1) := by decide +kernel
theorem d1_74 : decode method_3_code 74 = .ok (.bipush 8, 2) := by decide +kernel
theorem d1_76 : decode method_3_code 76 = .ok (.if_icmp .ne 7, 3) := by decide +kernel
theorem d1_79 : decode method_3_code 79 = .ok (.getstatic 49, 3) := by decide +kernel
theorem d1_82 : decode method_3_code 82 = .ok (.areturn, 1) := by decide +kernel
theorem d1_83 : decode method_3_code 83 = .ok (.iload_n 0, 1) := by decide +kernel
theorem d1_84 : decode method_3_code 84 = .ok (.bipush 9, 2) := by decide +kernel
theorem d1_86 : decode method_3_code 86 = .ok (.if_icmp .ne 7, 3) := by decide +kernel
theorem d1_89 : decode method_3_code 89 = .ok (.getstatic 52, 3) := by decide +kernel
theorem d1_92 : decode method_3_code 92 = .ok (.areturn, 1) := by decide +kernel
theorem d1_93 : decode method_3_code 93 = .ok (.getstatic 55, 3) := by decide +kernel
theorem d1_96 : decode method_3_code 96 = .ok (.areturn, 1) := by decide +kernel
set_option maxRecDepth 65536 in
set_option maxHeartbeats 40000000 in
theorem rm1 (l : Launch) (Z : State) (a0 : Array Value) (hw : ∀ d ∈ tables_1, d.before a0 Z = true) (ws : List Jvm.Cond) (p1 : Int32) (w0 : Addr) (w1 : Addr) (w2 : Addr) (w3 : Addr) (w4 : Addr) (w5 : Addr) (w6 : Addr) (w7 : Addr) (w8 : Addr) (w9 : Addr) (w10 : Addr) (r : Addr) (h0 : Heap) (n0 : Nat) (Z0 : n0 ≤ h0.size) (S_METADATA : Sta Z h0 "com/example/partition/partition/protocol/Api" "METADATA" "Lcom/example/partition/partition/protocol/Api;" (.ref w0)) (S_SASL_HANDSHAKE : Sta Z h0 "com/example/partition/partition/protocol/Api" "SASL_HANDSHAKE" "Lcom/example/partition/partition/protocol/Api;" (.ref w1)) (S_API_VERSIONS : Sta Z h0 "com/example/partition/partition/protocol/Api" "API_VERSIONS" "Lcom/example/partition/partition/protocol/Api;" (.ref w2)) (S_CREATE_TOPICS : Sta Z h0 "com/example/partition/partition/protocol/Api" "CREATE_TOPICS" "Lcom/example/partition/partition/protocol/Api;" (.ref w3)) (S_DELETE_TOPICS : Sta Z h0 "com/example/partition/partition/protocol/Api" "DELETE_TOPICS" "Lcom/example/partition/partition/protocol/Api;" (.ref w4)) (S_DESCRIBE_CONFIGS : Sta Z h0 "com/example/partition/partition/protocol/Api" "DESCRIBE_CONFIGS" "Lcom/example/partition/partition/protocol/Api;" (.ref w5)) (S_ALTER_CONFIGS : Sta Z h0 "com/example/partition/partition/protocol/Api" "ALTER_CONFIGS" "Lcom/example/partition/partition/protocol/Api;" (.ref w6)) (S_SASL_AUTHENTICATE : Sta Z h0 "com/example/partition/partition/protocol/Api" "SASL_AUTHENTICATE" "Lcom/example/partition/partition/protocol/Api;" (.ref w7)) (S_CREATE_PARTITIONS : Sta Z h0 "com/example/partition/partition/protocol/Api" "CREATE_PARTITIONS" "Lcom/example/partition/partition/protocol/Api;" (.ref w8)) (S_INCREMENTAL_ALTER_CONFIGS : Sta Z h0 "com/example/partition/partition/protocol/Api" "INCREMENTAL_ALTER_CONFIGS" "Lcom/example/partition/partition/protocol/Api;" (.ref w9)) (S_DESCRIBE_CLUSTER : Sta Z h0 "com/example/partition/partition/protocol/Api" "DESCRIBE_CLUSTER" "Lcom/example/partition/partition/protocol/Api;" (.ref w10)) (hr : pickV p1 w0 w1 w2 w3 w4 w5 w6 w7 w8 w9 w10 = r) :
    MetFree l (⟨"com/example/partition/partition/protocol/ApiAnswersPinLaw", "pick", "(I)Lcom/example/partition/partition/protocol/Api;"⟩ : MethodName) (head1 (Jvm.Cond.code (⟨"com/example/partition/partition/protocol/ApiAnswersPinLaw", "pick", "(I)Lcom/example/partition/partition/protocol/Api;"⟩ : MethodName) method_3_code 1 (some (.object "com/example/partition/partition/protocol/Api")) :: ws) ({ frames := 0, cells := 0, slots := 0, locals := 0 } : Room)) (fun a U => a = #[(.int p1)] ∧ Z.Warmed39 U.vm ∧ U.heap = h0) (fun _ _ _ _ _ => True) (fun _ U o U' => ∃ v L, o = .returned v ∧ Q1 Z r h0 n0 v U'.heap L ∧ FrameEnd U o U' L ({ frames := 0, cells := 0, slots := 0, locals := 0 } : Room).cells ({ frames := 0, cells := 0, slots := 0, locals := 0 } : Room).slots) := by
  refine MetFree.of_bodySF (plainFor_of_name pn_com_example_partition_partition_protocol_ApiAnswersPinLaw) hisR ?_
  intro p e s m args below meth c s₁ Bd hml0 hP hK
  obtain ⟨rfl, hZ, hh⟩ := hP
  have hx := Bd.exec
  have hby := Bd.bytes
  have hlk : meth.locks = false := BodyLoose.notSynchronized Bd
  have hml : c.maxLocals = 1 := hml0
  have hown : s.vm.findClass "com/example/partition/partition/protocol/ApiAnswersPinLaw" = some m.cls := findClass_of_methodNamed Bd.named
  have hnm := (name_of_methodNamed Bd.named Bd.method).1
  have X0 : Stand p l e ({ frames := 0, cells := 0, slots := 0, locals := 0 } : Room) s m #[(.int p1)] below meth c s₁ [] 0 0 := Stand.of_body Bd
  have e0 : s₁.heap = h0 := by rw [← hh, Bd.state]; rfl
  have N0 := Fr.nil n0
  have hret := Bd.returns
  show Goes p e below (fun o U' => ∃ v L, o = .returned v ∧ Q1 Z r h0 n0 v U'.heap L ∧ FrameEnd s o U' L ({ frames := 0, cells := 0, slots := 0, locals := 0 } : Room).cells ({ frames := 0, cells := 0, slots := 0, locals := 0 } : Room).slots) (s₁.setTop (entryFrame m #[(.int p1)] 1))
  refine Goes.step ?_ (fun _ k => castTop (ef_rm1 m p1) k)
  show Goes p e below _ (sF s₁ m 0 #[iv p1] [])
  refine Goes.step ?_ (fun _ k => XS.iloadN X0.here hx rfl (hb hby d1_0) rfl  k)
  show Goes p e below _ (sF s₁ m 1 #[iv p1] [(.int p1)])
  by_cases hc1_1 : p1 = (0 : Int32)
  · refine Goes.step ?_ (fun _ k => XS.ifNo X0.here hx rfl (hb hby d1_1) rfl ((if0 _ _).trans (teq hc1_1).2) k)
    show Goes p e below _ (sF s₁ m 4 #[iv p1] [])
    obtain ⟨T2, X2, e2, st2⟩ := getS2 X0 hx hZ hown (host := "") (Or.inl (hw _ (List.mem_of_getElem? (i := 5) rfl))) Via.refl e0 S_METADATA (g := (mkF m 4 #[iv p1] [])) rfl (hb hby d1_4)
    refine Goes.step ?_ st2
    show Goes p e below _ (sF T2 m 7 #[iv p1] [(.ref w0)])
    refine own_out X2 hx hlk hret rfl (Or.inr (Or.inr (Or.inr (Or.inr ⟨rfl, rfl, rfl⟩)))) (hb hby d1_7) ?_ (by decide) (by decide)
    show Q1 Z r h0 n0 _ T2.heap _
    rw [e2]
    exact ⟨by rw [← hr]; simp [pickV, hc1_1], N0, rfl⟩
  · refine Goes.step ?_ (fun _ k => XS.ifYes X0.here hx rfl (pc0 := 1) (pc' := 8) rfl (hb hby d1_1) rfl ((if0 _ _).trans (feq hc1_1).2) (by decide) (by decide) k)
    show Goes p e below _ (sF s₁ m 8 #[iv p1] [])
    refine Goes.step ?_ (fun _ k => XS.iloadN X0.here hx rfl (hb hby d1_8) rfl  k)
    show Goes p e below _ (sF s₁ m 9 #[iv p1] [(.int p1)])
    refine Goes.step ?_ (fun _ k => XS.iconst X0.here hx rfl (hb hby d1_9) k)
    show Goes p e below _ (sF s₁ m 10 #[iv p1] [(.int (1 : Int32)), (.int p1)])
    by_cases hc10_3 : p1 = (1 : Int32)
    · refine Goes.step ?_ (fun _ k => XS.icmpNo X0.here hx rfl (hb hby d1_10) rfl (teq hc10_3).2 k)
      show Goes p e below _ (sF s₁ m 13 #[iv p1] [])
      obtain ⟨T4, X4, e4, st4⟩ := getS2 X0 hx hZ hown (host := "") (Or.inl (hw _ (List.mem_of_getElem? (i := 20) rfl))) Via.refl e0 S_SASL_HANDSHAKE (g := (mkF m 13 #[iv p1] [])) rfl (hb hby d1_13)
      refine Goes.step ?_ st4
      show Goes p e below _ (sF T4 m 16 #[iv p1] [(.ref w1)])
      refine own_out X4 hx hlk hret rfl (Or.inr (Or.inr (Or.inr (Or.inr ⟨rfl, rfl, rfl⟩)))) (hb hby d1_16) ?_ (by decide) (by decide)
      show Q1 Z r h0 n0 _ T4.heap _
      rw [e4]
      exact ⟨by rw [← hr]; simp [pickV, hc1_1, hc10_3], N0, rfl⟩
    · refine Goes.step ?_ (fun _ k => XS.icmpYes X0.here hx rfl (pc0 := 10) (pc' := 17) rfl (hb hby d1_10) rfl (feq hc10_3).2 (by decide) (by decide) k)
      show Goes p e below _ (sF s₁ m 17 #[iv p1] [])
      refine Goes.step ?_ (fun _ k => XS.iloadN X0.here hx rfl (hb hby d1_17) rfl  k)
      show Goes p e below _ (sF s₁ m 18 #[iv p1] [(.int p1)])
      refine Goes.step ?_ (fun _ k => XS.iconst X0.here hx rfl (hb hby d1_18) k)
      show Goes p e below _ (sF s₁ m 19 #[iv p1] [(.int (2 : Int32)), (.int p1)])
      by_cases hc19_5 : p1 = (2 : Int32)
      · refine Goes.step ?_ (fun _ k => XS.icmpNo X0.here hx rfl (hb hby d1_19) rfl (teq hc19_5).2 k)
        show Goes p e below _ (sF s₁ m 22 #[iv p1] [])
        obtain ⟨T6, X6, e6, st6⟩ := getS2 X0 hx hZ hown (host := "") (Or.inl (hw _ (List.mem_of_getElem? (i := 30) rfl))) Via.refl e0 S_API_VERSIONS (g := (mkF m 22 #[iv p1] [])) rfl (hb hby d1_22)
        refine Goes.step ?_ st6
        show Goes p e below _ (sF T6 m 25 #[iv p1] [(.ref w2)])
        refine own_out X6 hx hlk hret rfl (Or.inr (Or.inr (Or.inr (Or.inr ⟨rfl, rfl, rfl⟩)))) (hb hby d1_25) ?_ (by decide) (by decide)
        show Q1 Z r h0 n0 _ T6.heap _
        rw [e6]
        exact ⟨by rw [← hr]; simp [pickV, hc1_1, hc10_3, hc19_5], N0, rfl⟩
      · refine Goes.step ?_ (fun _ k => XS.icmpYes X0.here hx rfl (pc0 := 19) (pc' := 26) rfl (hb hby d1_19) rfl (feq hc19_5).2 (by decide) (by decide) k)
        show Goes p e below _ (sF s₁ m 26 #[iv p1] [])
        refine Goes.step ?_ (fun _ k => XS.iloadN X0.here hx rfl (hb hby d1_26) rfl  k)
        show Goes p e below _ (sF s₁ m 27 #[iv p1] [(.int p1)])
        refine Goes.step ?_ (fun _ k => XS.iconst X0.here hx rfl (hb hby d1_27) k)
        show Goes p e below _ (sF s₁ m 28 #[iv p1] [(.int (3 : Int32)), (.int p1)])
        by_cases hc28_7 : p1 = (3 : Int32)
        · refine Goes.step ?_ (fun _ k => XS.icmpNo X0.here hx rfl (hb hby d1_28) rfl (teq hc28_7).2 k)
          show Goes p e below _ (sF s₁ m 31 #[iv p1] [])
          obtain ⟨T8, X8, e8, st8⟩ := getS2 X0 hx hZ hown (host := "") (Or.inl (hw _ (List.mem_of_getElem? (i := 28) rfl))) Via.refl e0 S_CREATE_TOPICS (g := (mkF m 31 #[iv p1] [])) rfl (hb hby d1_31)
          refine Goes.step ?_ st8
          show Goes p e below _ (sF T8 m 34 #[iv p1] [(.ref w3)])
          refine own_out X8 hx hlk hret rfl (Or.inr (Or.inr (Or.inr (Or.inr ⟨rfl, rfl, rfl⟩)))) (hb hby d1_34) ?_ (by decide) (by decide)
          show Q1 Z r h0 n0 _ T8.heap _
          rw [e8]
          exact ⟨by rw [← hr]; simp [pickV, hc1_1, hc10_3, hc19_5, hc28_7], N0, rfl⟩
        · refine Goes.step ?_ (fun _ k => XS.icmpYes X0.here hx rfl (pc0 := 28) (pc' := 35) rfl (hb hby d1_28) rfl (feq hc28_7).2 (by decide) (by decide) k)
          show Goes p e below _ (sF s₁ m 35 #[iv p1] [])
          refine Goes.step ?_ (fun _ k => XS.iloadN X0.here hx rfl (hb hby d1_35) rfl  k)
          show Goes p e below _ (sF s₁ m 36 #[iv p1] [(.int p1)])
          refine Goes.step ?_ (fun _ k => XS.iconst X0.here hx rfl (hb hby d1_36) k)
          show Goes p e below _ (sF s₁ m 37 #[iv p1] [(.int (4 : Int32)), (.int p1)])
          by_cases hc37_9 : p1 = (4 : Int32)
          · refine Goes.step ?_ (fun _ k => XS.icmpNo X0.here hx rfl (hb hby d1_37) rfl (teq hc37_9).2 k)
            show Goes p e below _ (sF s₁ m 40 #[iv p1] [])
            obtain ⟨T10, X10, e10, st10⟩ := getS2 X0 hx hZ hown (host := "") (Or.inl (hw _ (List.mem_of_getElem? (i := 38) rfl))) Via.refl e0 S_DELETE_TOPICS (g := (mkF m 40 #[iv p1] [])) rfl (hb hby d1_40)
            refine Goes.step ?_ st10
            show Goes p e below _ (sF T10 m 43 #[iv p1] [(.ref w4)])
            refine own_out X10 hx hlk hret rfl (Or.inr (Or.inr (Or.inr (Or.inr ⟨rfl, rfl, rfl⟩)))) (hb hby d1_43) ?_ (by decide) (by decide)
            show Q1 Z r h0 n0 _ T10.heap _
            rw [e10]
            exact ⟨by rw [← hr]; simp [pickV, hc1_1, hc10_3, hc19_5, hc28_7, hc37_9], N0, rfl⟩
          · refine Goes.step ?_ (fun _ k => XS.icmpYes X0.here hx rfl (pc0 := 37) (pc' := 44) rfl (hb hby d1_37) rfl (feq hc37_9).2 (by decide) (by decide) k)
            show Goes p e below _ (sF s₁ m 44 #[iv p1] [])
            refine Goes.step ?_ (fun _ k => XS.iloadN X0.here hx rfl (hb hby d1_44) rfl  k)
            show Goes p e below _ (sF s₁ m 45 #[iv p1] [(.int p1)])
            refine Goes.step ?_ (fun _ k => XS.iconst X0.here hx rfl (hb hby d1_45) k)
            show Goes p e below _ (sF s₁ m 46 #[iv p1] [(.int (5 : Int32)), (.int p1)])
            by_cases hc46_11 : p1 = (5 : Int32)
            · refine Goes.step ?_ (fun _ k => XS.icmpNo X0.here hx rfl (hb hby d1_46) rfl (teq hc46_11).2 k)
              show Goes p e below _ (sF s₁ m 49 #[iv p1] [])
              obtain ⟨T12, X12, e12, st12⟩ := getS2 X0 hx hZ hown (host := "") (Or.inl (hw _ (List.mem_of_getElem? (i := 26) rfl))) Via.refl e0 S_DESCRIBE_CONFIGS (g := (mkF m 49 #[iv p1] [])) rfl (hb hby d1_49)
              refine Goes.step ?_ st12
              show Goes p e below _ (sF T12 m 52 #[iv p1] [(.ref w5)])
              refine own_out X12 hx hlk hret rfl (Or.inr (Or.inr (Or.inr (Or.inr ⟨rfl, rfl, rfl⟩)))) (hb hby d1_52) ?_ (by decide) (by decide)
              show Q1 Z r h0 n0 _ T12.heap _
              rw [e12]
              exact ⟨by rw [← hr]; simp [pickV, hc1_1, hc10_3, hc19_5, hc28_7, hc37_9, hc46_11], N0, rfl⟩
            · refine Goes.step ?_ (fun _ k => XS.icmpYes X0.here hx rfl (pc0 := 46) (pc' := 53) rfl (hb hby d1_46) rfl (feq hc46_11).2 (by decide) (by decide) k)
              show Goes p e below _ (sF s₁ m 53 #[iv p1] [])
              refine Goes.step ?_ (fun _ k => XS.iloadN X0.here hx rfl (hb hby d1_53) rfl  k)
              show Goes p e below _ (sF s₁ m 54 #[iv p1] [(.int p1)])
              refine Goes.step ?_ (fun _ k => XS.bipush X0.here hx rfl (hb hby d1_54) k)
              show Goes p e below _ (sF s₁ m 56 #[iv p1] [(.int (6 : Int32)), (.int p1)])
              by_cases hc56_13 : p1 = (6 : Int32)
              · refine Goes.step ?_ (fun _ k => XS.icmpNo X0.here hx rfl (hb hby d1_56) rfl (teq hc56_13).2 k)
                show Goes p e below _ (sF s₁ m 59 #[iv p1] [])
                obtain ⟨T14, X14, e14, st14⟩ := getS2 X0 hx hZ hown (host := "") (Or.inl (hw _ (List.mem_of_getElem? (i := 32) rfl))) Via.refl e0 S_ALTER_CONFIGS (g := (mkF m 59 #[iv p1] [])) rfl (hb hby d1_59)
                refine Goes.step ?_ st14
                show Goes p e below _ (sF T14 m 62 #[iv p1] [(.ref w6)])
                refine own_out X14 hx hlk hret rfl (Or.inr (Or.inr (Or.inr (Or.inr ⟨rfl, rfl, rfl⟩)))) (hb hby d1_62) ?_ (by decide) (by decide)
                show Q1 Z r h0 n0 _ T14.heap _
                rw [e14]
                exact ⟨by rw [← hr]; simp [pickV, hc1_1, hc10_3, hc19_5, hc28_7, hc37_9, hc46_11, hc56_13], N0, rfl⟩
              · refine Goes.step ?_ (fun _ k => XS.icmpYes X0.here hx rfl (pc0 := 56) (pc' := 63) rfl (hb hby d1_56) rfl (feq hc56_13).2 (by decide) (by decide) k)
                show Goes p e below _ (sF s₁ m 63 #[iv p1] [])
                refine Goes.step ?_ (fun _ k => XS.iloadN X0.here hx rfl (hb hby d1_63) rfl  k)
                show Goes p e below _ (sF s₁ m 64 #[iv p1] [(.int p1)])
                refine Goes.step ?_ (fun _ k => XS.bipush X0.here hx rfl (hb hby d1_64) k)
                show Goes p e below _ (sF s₁ m 66 #[iv p1] [(.int (7 : Int32)), (.int p1)])
                by_cases hc66_15 : p1 = (7 : Int32)
                · refine Goes.step ?_ (fun _ k => XS.icmpNo X0.here hx rfl (hb hby d1_66) rfl (teq hc66_15).2 k)
                  show Goes p e below _ (sF s₁ m 69 #[iv p1] [])
                  obtain ⟨T16, X16, e16, st16⟩ := getS2 X0 hx hZ hown (host := "") (Or.inl (hw _ (List.mem_of_getElem? (i := 34) rfl))) Via.refl e0 S_SASL_AUTHENTICATE (g := (mkF m 69 #[iv p1] [])) rfl (hb hby d1_69)
                  refine Goes.step ?_ st16
                  show Goes p e below _ (sF T16 m 72 #[iv p1] [(.ref w7)])
                  refine own_out X16 hx hlk hret rfl (Or.inr (Or.inr (Or.inr (Or.inr ⟨rfl, rfl, rfl⟩)))) (hb hby d1_72) ?_ (by decide) (by decide)
                  show Q1 Z r h0 n0 _ T16.heap _
                  rw [e16]
                  exact ⟨by rw [← hr]; simp [pickV, hc1_1, hc10_3, hc19_5, hc28_7, hc37_9, hc46_11, hc56_13, hc66_15], N0, rfl⟩
                · refine Goes.step ?_ (fun _ k => XS.icmpYes X0.here hx rfl (pc0 := 66) (pc' := 73) rfl (hb hby d1_66) rfl (feq hc66_15).2 (by decide) (by decide) k)
                  show Goes p e below _ (sF s₁ m 73 #[iv p1] [])
                  refine Goes.step ?_ (fun _ k => XS.iloadN X0.here hx rfl (hb hby d1_73) rfl  k)
                  show Goes p e below _ (sF s₁ m 74 #[iv p1] [(.int p1)])
                  refine Goes.step ?_ (fun _ k => XS.bipush X0.here hx rfl (hb hby d1_74) k)
                  show Goes p e below _ (sF s₁ m 76 #[iv p1] [(.int (8 : Int32)), (.int p1)])
                  by_cases hc76_17 : p1 = (8 : Int32)
                  · refine Goes.step ?_ (fun _ k => XS.icmpNo X0.here hx rfl (hb hby d1_76) rfl (teq hc76_17).2 k)
                    show Goes p e below _ (sF s₁ m 79 #[iv p1] [])
                    obtain ⟨T18, X18, e18, st18⟩ := getS2 X0 hx hZ hown (host := "") (Or.inl (hw _ (List.mem_of_getElem? (i := 24) rfl))) Via.refl e0 S_CREATE_PARTITIONS (g := (mkF m 79 #[iv p1] [])) rfl (hb hby d1_79)
                    refine Goes.step ?_ st18
                    show Goes p e below _ (sF T18 m 82 #[iv p1] [(.ref w8)])
                    refine own_out X18 hx hlk hret rfl (Or.inr (Or.inr (Or.inr (Or.inr ⟨rfl, rfl, rfl⟩)))) (hb hby d1_82) ?_ (by decide) (by decide)
                    show Q1 Z r h0 n0 _ T18.heap _
                    rw [e18]
                    exact ⟨by rw [← hr]; simp [pickV, hc1_1, hc10_3, hc19_5, hc28_7, hc37_9, hc46_11, hc56_13, hc66_15, hc76_17], N0, rfl⟩
                  · refine Goes.step ?_ (fun _ k => XS.icmpYes X0.here hx rfl (pc0 := 76) (pc' := 83) rfl (hb hby d1_76) rfl (feq hc76_17).2 (by decide) (by decide) k)
                    show Goes p e below _ (sF s₁ m 83 #[iv p1] [])
                    refine Goes.step ?_ (fun _ k => XS.iloadN X0.here hx rfl (hb hby d1_83) rfl  k)
                    show Goes p e below _ (sF s₁ m 84 #[iv p1] [(.int p1)])
                    refine Goes.step ?_ (fun _ k => XS.bipush X0.here hx rfl (hb hby d1_84) k)
                    show Goes p e below _ (sF s₁ m 86 #[iv p1] [(.int (9 : Int32)), (.int p1)])
                    by_cases hc86_19 : p1 = (9 : Int32)
                    · refine Goes.step ?_ (fun _ k => XS.icmpNo X0.here hx rfl (hb hby d1_86) rfl (teq hc86_19).2 k)
                      show Goes p e below _ (sF s₁ m 89 #[iv p1] [])
                      obtain ⟨T20, X20, e20, st20⟩ := getS2 X0 hx hZ hown (host := "") (Or.inl (hw _ (List.mem_of_getElem? (i := 36) rfl))) Via.refl e0 S_INCREMENTAL_ALTER_CONFIGS (g := (mkF m 89 #[iv p1] [])) rfl (hb hby d1_89)
                      refine Goes.step ?_ st20
                      show Goes p e below _ (sF T20 m 92 #[iv p1] [(.ref w9)])
                      refine own_out X20 hx hlk hret rfl (Or.inr (Or.inr (Or.inr (Or.inr ⟨rfl, rfl, rfl⟩)))) (hb hby d1_92) ?_ (by decide) (by decide)
                      show Q1 Z r h0 n0 _ T20.heap _
                      rw [e20]
                      exact ⟨by rw [← hr]; simp [pickV, hc1_1, hc10_3, hc19_5, hc28_7, hc37_9, hc46_11, hc56_13, hc66_15, hc76_17, hc86_19], N0, rfl⟩
                    · refine Goes.step ?_ (fun _ k => XS.icmpYes X0.here hx rfl (pc0 := 86) (pc' := 93) rfl (hb hby d1_86) rfl (feq hc86_19).2 (by decide) (by decide) k)
                      show Goes p e below _ (sF s₁ m 93 #[iv p1] [])
                      obtain ⟨T21, X21, e21, st21⟩ := getS2 X0 hx hZ hown (host := "") (Or.inl (hw _ (List.mem_of_getElem? (i := 22) rfl))) Via.refl e0 S_DESCRIBE_CLUSTER (g := (mkF m 93 #[iv p1] [])) rfl (hb hby d1_93)
                      refine Goes.step ?_ st21
                      show Goes p e below _ (sF T21 m 96 #[iv p1] [(.ref w10)])
                      refine own_out X21 hx hlk hret rfl (Or.inr (Or.inr (Or.inr (Or.inr ⟨rfl, rfl, rfl⟩)))) (hb hby d1_96) ?_ (by decide) (by decide)
                      show Q1 Z r h0 n0 _ T21.heap _
                      rw [e21]
                      exact ⟨by rw [← hr]; simp [pickV, hc1_1, hc10_3, hc19_5, hc28_7, hc37_9, hc46_11, hc56_13, hc66_15, hc76_17, hc86_19], N0, rfl⟩
theorem ef_rm2 (m : MethodId) (x0 : Int32) : entryFrame m #[(.int x0)] 1 = mkF m 0 #[iv x0] [] := by first | (simp [entryFrame, mkF, argsToLocals, Value.category]; done) | rfl
def Q2 (Z : State) (r : Int32) (h0 : Heap) (n0 : Nat) (v : Option Value) (h : Heap) (L : List Loc) : Prop := v = some (.int r) ∧ Fr n0 L ∧ h = h0
theorem d2_0 : decode method_4_code 0 = .ok (.iload_n 0, 1) := by decide +kernel
theorem d2_1 : decode method_4_code 1 = .ok (.ifCond .ne 6, 3) := by decide +kernel
theorem d2_4 : decode method_4_code 4 = .ok (.bipush 13, 2) := by decide +kernel
theorem d2_6 : decode method_4_code 6 = .ok (.ireturn, 1) := by decide +kernel
theorem d2_7 : decode method_4_code 7 = .ok (.iload_n 0, 1) := by decide +kernel
theorem d2_8 : decode method_4_code 8 = .ok (.iconst 1, 1) := by decide +kernel
theorem d2_9 : decode method_4_code 9 = .ok (.if_icmp .ne 5, 3) := by decide +kernel
theorem d2_12 : decode method_4_code 12 = .ok (.iconst 1, 1) := by decide +kernel
theorem d2_13 : decode method_4_code 13 = .ok (.ireturn, 1) := by decide +kernel
theorem d2_14 : decode method_4_code 14 = .ok (.iload_n 0, 1) := by decide +kernel
theorem d2_15 : decode method_4_code 15 = .ok (.iconst 2, 1) := by decide +kernel
theorem d2_16 : decode method_4_code 16 = .ok (.if_icmp .ne 5, 3) := by decide +kernel
theorem d2_19 : decode method_4_code 19 = .ok (.iconst 4, 1) := by decide +kernel
theorem d2_20 : decode method_4_code 20 = .ok (.ireturn, 1) := by decide +kernel
theorem d2_21 : decode method_4_code 21 = .ok (.iload_n 0, 1) := by decide +kernel
theorem d2_22 : decode method_4_code 22 = .ok (.iconst 3, 1) := by decide +kernel
theorem d2_23 : decode method_4_code 23 = .ok (.if_icmp .ne 6, 3) := by decide +kernel
theorem d2_26 : decode method_4_code 26 = .ok (.bipush 7, 2) := by decide +kernel
theorem d2_28 : decode method_4_code 28 = .ok (.ireturn, 1) := by decide +kernel
theorem d2_29 : decode method_4_code 29 = .ok (.iload_n 0, 1) := by decide +kernel
theorem d2_30 : decode method_4_code 30 = .ok (.iconst 4, 1) := by decide +kernel
theorem d2_31 : decode method_4_code 31 = .ok (.if_icmp .ne 6, 3) := by decide +kernel
theorem d2_34 : decode method_4_code 34 = .ok (.bipush 6, 2) := by decide +kernel
theorem d2_36 : decode method_4_code 36 = .ok (.ireturn, 1) := by decide +kernel
theorem d2_37 : decode method_4_code 37 = .ok (.iload_n 0, 1) := by decide +kernel
theorem d2_38 : decode method_4_code 38 = .ok (.iconst 5, 1) := by decide +kernel
theorem d2_39 : decode method_4_code 39 = .ok (.if_icmp .ne 5, 3) := by decide +kernel
theorem d2_42 : decode method_4_code 42 = .ok (.iconst 4, 1) := by decide +kernel
theorem d2_43 : decode method_4_code 43 = .ok (.ireturn, 1) := by decide +kernel
theorem d2_44 : decode method_4_code 44 = .ok (.iload_n 0, 1) := by decide +kernel
theorem d2_45 : decode method_4_code 45 = .ok (.bipush 6, 2) := by decide +kernel
theorem d2_47 : decode method_4_code 47 = .ok (.if_icmp .ne 5, 3) := by decide +kernel
theorem d2_50 : decode method_4_code 50 = .ok (.iconst 2, 1) := by decide +kernel
theorem d2_51 : decode method_4_code 51 = .ok (.ireturn, 1) := by decide +kernel
theorem d2_52 : decode method_4_code 52 = .ok (.iload_n 0, 1) := by decide +kernel
theorem d2_53 : decode method_4_code 53 = .ok (.bipush 7, 2) := by decide +kernel
theorem d2_55 : decode method_4_code 55 = .ok (.if_icmp .ne 5, 3) := by decide +kernel
theorem d2_58 : decode method_4_code 58 = .ok (.iconst 2, 1) := by decide +kernel
theorem d2_59 : decode method_4_code 59 = .ok (.ireturn, 1) := by decide +kernel
theorem d2_60 : decode method_4_code 60 = .ok (.iload_n 0, 1) := by decide +kernel
theorem d2_61 : decode method_4_code 61 = .ok (.bipush 8, 2) := by decide +kernel
theorem d2_63 : decode method_4_code 63 = .ok (.if_icmp .ne 5, 3) := by decide +kernel
theorem d2_66 : decode method_4_code 66 = .ok (.iconst 3, 1) := by decide +kernel
theorem d2_67 : decode method_4_code 67 = .ok (.ireturn, 1) := by decide +kernel
theorem d2_68 : decode method_4_code 68 = .ok (.iload_n 0, 1) := by decide +kernel
theorem d2_69 : decode method_4_code 69 = .ok (.bipush 9, 2) := by decide +kernel
theorem d2_71 : decode method_4_code 71 = .ok (.if_icmp .ne 5, 3) := by decide +kernel
theorem d2_74 : decode method_4_code 74 = .ok (.iconst 1, 1) := by decide +kernel
theorem d2_75 : decode method_4_code 75 = .ok (.ireturn, 1) := by decide +kernel
theorem d2_76 : decode method_4_code 76 = .ok (.iconst 2, 1) := by decide +kernel
theorem d2_77 : decode method_4_code 77 = .ok (.ireturn, 1) := by decide +kernel
set_option maxRecDepth 65536 in
set_option maxHeartbeats 40000000 in
theorem rm2 (l : Launch) (Z : State) (a0 : Array Value) (hw : ∀ d ∈ tables_1, d.before a0 Z = true) (ws : List Jvm.Cond) (p1 : Int32) (r : Int32) (h0 : Heap) (n0 : Nat) (Z0 : n0 ≤ h0.size) (hr : maxV p1 = r) :
    MetFree l (⟨"com/example/partition/partition/protocol/ApiAnswersPinLaw", "maxOf", "(I)I"⟩ : MethodName) (head1 (Jvm.Cond.code (⟨"com/example/partition/partition/protocol/ApiAnswersPinLaw", "maxOf", "(I)I"⟩ : MethodName) method_4_code 1 (some .int) :: ws) ({ frames := 0, cells := 0, slots := 0, locals := 0 } : Room)) (fun a U => a = #[(.int p1)] ∧ Z.Warmed39 U.vm ∧ U.heap = h0) (fun _ _ _ _ _ => True) (fun _ U o U' => ∃ v L, o = .returned v ∧ Q2 Z r h0 n0 v U'.heap L ∧ FrameEnd U o U' L ({ frames := 0, cells := 0, slots := 0, locals := 0 } : Room).cells ({ frames := 0, cells := 0, slots := 0, locals := 0 } : Room).slots) := by
  refine MetFree.of_bodySF (plainFor_of_name pn_com_example_partition_partition_protocol_ApiAnswersPinLaw) hisR ?_
  intro p e s m args below meth c s₁ Bd hml0 hP hK
  obtain ⟨rfl, hZ, hh⟩ := hP
  have hx := Bd.exec
  have hby := Bd.bytes
  have hlk : meth.locks = false := BodyLoose.notSynchronized Bd
  have hml : c.maxLocals = 1 := hml0
  have hown : s.vm.findClass "com/example/partition/partition/protocol/ApiAnswersPinLaw" = some m.cls := findClass_of_methodNamed Bd.named
  have hnm := (name_of_methodNamed Bd.named Bd.method).1
  have X0 : Stand p l e ({ frames := 0, cells := 0, slots := 0, locals := 0 } : Room) s m #[(.int p1)] below meth c s₁ [] 0 0 := Stand.of_body Bd
  have e0 : s₁.heap = h0 := by rw [← hh, Bd.state]; rfl
  have N0 := Fr.nil n0
  have hret := Bd.returns
  show Goes p e below (fun o U' => ∃ v L, o = .returned v ∧ Q2 Z r h0 n0 v U'.heap L ∧ FrameEnd s o U' L ({ frames := 0, cells := 0, slots := 0, locals := 0 } : Room).cells ({ frames := 0, cells := 0, slots := 0, locals := 0 } : Room).slots) (s₁.setTop (entryFrame m #[(.int p1)] 1))
  refine Goes.step ?_ (fun _ k => castTop (ef_rm2 m p1) k)
  show Goes p e below _ (sF s₁ m 0 #[iv p1] [])
  refine Goes.step ?_ (fun _ k => XS.iloadN X0.here hx rfl (hb hby d2_0) rfl  k)
  show Goes p e below _ (sF s₁ m 1 #[iv p1] [(.int p1)])
  by_cases hc1_1 : p1 = (0 : Int32)
  · refine Goes.step ?_ (fun _ k => XS.ifNo X0.here hx rfl (hb hby d2_1) rfl ((if0 _ _).trans (teq hc1_1).2) k)
    show Goes p e below _ (sF s₁ m 4 #[iv p1] [])
    refine Goes.step ?_ (fun _ k => XS.bipush X0.here hx rfl (hb hby d2_4) k)
    show Goes p e below _ (sF s₁ m 6 #[iv p1] [(.int (13 : Int32))])
    refine own_out X0 hx hlk hret rfl (Or.inl ⟨rfl, by simp, _, rfl⟩) (hb hby d2_6) ?_ (by decide) (by decide)
    show Q2 Z r h0 n0 _ s₁.heap _
    rw [e0]
    exact ⟨by rw [← hr]; simp [maxV, hc1_1], N0, rfl⟩
  · refine Goes.step ?_ (fun _ k => XS.ifYes X0.here hx rfl (pc0 := 1) (pc' := 7) rfl (hb hby d2_1) rfl ((if0 _ _).trans (feq hc1_1).2) (by decide) (by decide) k)
    show Goes p e below _ (sF s₁ m 7 #[iv p1] [])
    refine Goes.step ?_ (fun _ k => XS.iloadN X0.here hx rfl (hb hby d2_7) rfl  k)
    show Goes p e below _ (sF s₁ m 8 #[iv p1] [(.int p1)])
    refine Goes.step ?_ (fun _ k => XS.iconst X0.here hx rfl (hb hby d2_8) k)
    show Goes p e below _ (sF s₁ m 9 #[iv p1] [(.int (1 : Int32)), (.int p1)])
    by_cases hc9_2 : p1 = (1 : Int32)
    · refine Goes.step ?_ (fun _ k => XS.icmpNo X0.here hx rfl (hb hby d2_9) rfl (teq hc9_2).2 k)
      show Goes p e below _ (sF s₁ m 12 #[iv p1] [])
      refine Goes.step ?_ (fun _ k => XS.iconst X0.here hx rfl (hb hby d2_12) k)
      show Goes p e below _ (sF s₁ m 13 #[iv p1] [(.int (1 : Int32))])
      refine own_out X0 hx hlk hret rfl (Or.inl ⟨rfl, by simp, _, rfl⟩) (hb hby d2_13) ?_ (by decide) (by decide)
      show Q2 Z r h0 n0 _ s₁.heap _
      rw [e0]
      exact ⟨by rw [← hr]; simp [maxV, hc1_1, hc9_2], N0, rfl⟩
    · refine Goes.step ?_ (fun _ k => XS.icmpYes X0.here hx rfl (pc0 := 9) (pc' := 14) rfl (hb hby d2_9) rfl (feq hc9_2).2 (by decide) (by decide) k)
      show Goes p e below _ (sF s₁ m 14 #[iv p1] [])
      refine Goes.step ?_ (fun _ k => XS.iloadN X0.here hx rfl (hb hby d2_14) rfl  k)
      show Goes p e below _ (sF s₁ m 15 #[iv p1] [(.int p1)])
      refine Goes.step ?_ (fun _ k => XS.iconst X0.here hx rfl (hb hby d2_15) k)
      show Goes p e below _ (sF s₁ m 16 #[iv p1] [(.int (2 : Int32)), (.int p1)])
      by_cases hc16_3 : p1 = (2 : Int32)
      · refine Goes.step ?_ (fun _ k => XS.icmpNo X0.here hx rfl (hb hby d2_16) rfl (teq hc16_3).2 k)
        show Goes p e below _ (sF s₁ m 19 #[iv p1] [])
        refine Goes.step ?_ (fun _ k => XS.iconst X0.here hx rfl (hb hby d2_19) k)
        show Goes p e below _ (sF s₁ m 20 #[iv p1] [(.int (4 : Int32))])
        refine own_out X0 hx hlk hret rfl (Or.inl ⟨rfl, by simp, _, rfl⟩) (hb hby d2_20) ?_ (by decide) (by decide)
        show Q2 Z r h0 n0 _ s₁.heap _
        rw [e0]
        exact ⟨by rw [← hr]; simp [maxV, hc1_1, hc9_2, hc16_3], N0, rfl⟩
      · refine Goes.step ?_ (fun _ k => XS.icmpYes X0.here hx rfl (pc0 := 16) (pc' := 21) rfl (hb hby d2_16) rfl (feq hc16_3).2 (by decide) (by decide) k)
        show Goes p e below _ (sF s₁ m 21 #[iv p1] [])
        refine Goes.step ?_ (fun _ k => XS.iloadN X0.here hx rfl (hb hby d2_21) rfl  k)
        show Goes p e below _ (sF s₁ m 22 #[iv p1] [(.int p1)])
        refine Goes.step ?_ (fun _ k => XS.iconst X0.here hx rfl (hb hby d2_22) k)
        show Goes p e below _ (sF s₁ m 23 #[iv p1] [(.int (3 : Int32)), (.int p1)])
        by_cases hc23_4 : p1 = (3 : Int32)
        · refine Goes.step ?_ (fun _ k => XS.icmpNo X0.here hx rfl (hb hby d2_23) rfl (teq hc23_4).2 k)
          show Goes p e below _ (sF s₁ m 26 #[iv p1] [])
          refine Goes.step ?_ (fun _ k => XS.bipush X0.here hx rfl (hb hby d2_26) k)
          show Goes p e below _ (sF s₁ m 28 #[iv p1] [(.int (7 : Int32))])
          refine own_out X0 hx hlk hret rfl (Or.inl ⟨rfl, by simp, _, rfl⟩) (hb hby d2_28) ?_ (by decide) (by decide)
          show Q2 Z r h0 n0 _ s₁.heap _
          rw [e0]
          exact ⟨by rw [← hr]; simp [maxV, hc1_1, hc9_2, hc16_3, hc23_4], N0, rfl⟩
        · refine Goes.step ?_ (fun _ k => XS.icmpYes X0.here hx rfl (pc0 := 23) (pc' := 29) rfl (hb hby d2_23) rfl (feq hc23_4).2 (by decide) (by decide) k)
          show Goes p e below _ (sF s₁ m 29 #[iv p1] [])
          refine Goes.step ?_ (fun _ k => XS.iloadN X0.here hx rfl (hb hby d2_29) rfl  k)
          show Goes p e below _ (sF s₁ m 30 #[iv p1] [(.int p1)])
          refine Goes.step ?_ (fun _ k => XS.iconst X0.here hx rfl (hb hby d2_30) k)
          show Goes p e below _ (sF s₁ m 31 #[iv p1] [(.int (4 : Int32)), (.int p1)])
          by_cases hc31_5 : p1 = (4 : Int32)
          · refine Goes.step ?_ (fun _ k => XS.icmpNo X0.here hx rfl (hb hby d2_31) rfl (teq hc31_5).2 k)
            show Goes p e below _ (sF s₁ m 34 #[iv p1] [])
            refine Goes.step ?_ (fun _ k => XS.bipush X0.here hx rfl (hb hby d2_34) k)
            show Goes p e below _ (sF s₁ m 36 #[iv p1] [(.int (6 : Int32))])
            refine own_out X0 hx hlk hret rfl (Or.inl ⟨rfl, by simp, _, rfl⟩) (hb hby d2_36) ?_ (by decide) (by decide)
            show Q2 Z r h0 n0 _ s₁.heap _
            rw [e0]
            exact ⟨by rw [← hr]; simp [maxV, hc1_1, hc9_2, hc16_3, hc23_4, hc31_5], N0, rfl⟩
          · refine Goes.step ?_ (fun _ k => XS.icmpYes X0.here hx rfl (pc0 := 31) (pc' := 37) rfl (hb hby d2_31) rfl (feq hc31_5).2 (by decide) (by decide) k)
            show Goes p e below _ (sF s₁ m 37 #[iv p1] [])
            refine Goes.step ?_ (fun _ k => XS.iloadN X0.here hx rfl (hb hby d2_37) rfl  k)
            show Goes p e below _ (sF s₁ m 38 #[iv p1] [(.int p1)])
            refine Goes.step ?_ (fun _ k => XS.iconst X0.here hx rfl (hb hby d2_38) k)
            show Goes p e below _ (sF s₁ m 39 #[iv p1] [(.int (5 : Int32)), (.int p1)])
            by_cases hc39_6 : p1 = (5 : Int32)
            · refine Goes.step ?_ (fun _ k => XS.icmpNo X0.here hx rfl (hb hby d2_39) rfl (teq hc39_6).2 k)
              show Goes p e below _ (sF s₁ m 42 #[iv p1] [])
              refine Goes.step ?_ (fun _ k => XS.iconst X0.here hx rfl (hb hby d2_42) k)
              show Goes p e below _ (sF s₁ m 43 #[iv p1] [(.int (4 : Int32))])
              refine own_out X0 hx hlk hret rfl (Or.inl ⟨rfl, by simp, _, rfl⟩) (hb hby d2_43) ?_ (by decide) (by decide)
              show Q2 Z r h0 n0 _ s₁.heap _
              rw [e0]
              exact ⟨by rw [← hr]; simp [maxV, hc1_1, hc9_2, hc16_3, hc23_4, hc31_5, hc39_6], N0, rfl⟩
            · refine Goes.step ?_ (fun _ k => XS.icmpYes X0.here hx rfl (pc0 := 39) (pc' := 44) rfl (hb hby d2_39) rfl (feq hc39_6).2 (by decide) (by decide) k)
              show Goes p e below _ (sF s₁ m 44 #[iv p1] [])
              refine Goes.step ?_ (fun _ k => XS.iloadN X0.here hx rfl (hb hby d2_44) rfl  k)
              show Goes p e below _ (sF s₁ m 45 #[iv p1] [(.int p1)])
              refine Goes.step ?_ (fun _ k => XS.bipush X0.here hx rfl (hb hby d2_45) k)
              show Goes p e below _ (sF s₁ m 47 #[iv p1] [(.int (6 : Int32)), (.int p1)])
              by_cases hc47_7 : p1 = (6 : Int32)
              · refine Goes.step ?_ (fun _ k => XS.icmpNo X0.here hx rfl (hb hby d2_47) rfl (teq hc47_7).2 k)
                show Goes p e below _ (sF s₁ m 50 #[iv p1] [])
                refine Goes.step ?_ (fun _ k => XS.iconst X0.here hx rfl (hb hby d2_50) k)
                show Goes p e below _ (sF s₁ m 51 #[iv p1] [(.int (2 : Int32))])
                refine own_out X0 hx hlk hret rfl (Or.inl ⟨rfl, by simp, _, rfl⟩) (hb hby d2_51) ?_ (by decide) (by decide)
                show Q2 Z r h0 n0 _ s₁.heap _
                rw [e0]
                exact ⟨by rw [← hr]; simp [maxV, hc1_1, hc9_2, hc16_3, hc23_4, hc31_5, hc39_6, hc47_7], N0, rfl⟩
              · refine Goes.step ?_ (fun _ k => XS.icmpYes X0.here hx rfl (pc0 := 47) (pc' := 52) rfl (hb hby d2_47) rfl (feq hc47_7).2 (by decide) (by decide) k)
                show Goes p e below _ (sF s₁ m 52 #[iv p1] [])
                refine Goes.step ?_ (fun _ k => XS.iloadN X0.here hx rfl (hb hby d2_52) rfl  k)
                show Goes p e below _ (sF s₁ m 53 #[iv p1] [(.int p1)])
                refine Goes.step ?_ (fun _ k => XS.bipush X0.here hx rfl (hb hby d2_53) k)
                show Goes p e below _ (sF s₁ m 55 #[iv p1] [(.int (7 : Int32)), (.int p1)])
                by_cases hc55_8 : p1 = (7 : Int32)
                · refine Goes.step ?_ (fun _ k => XS.icmpNo X0.here hx rfl (hb hby d2_55) rfl (teq hc55_8).2 k)
                  show Goes p e below _ (sF s₁ m 58 #[iv p1] [])
                  refine Goes.step ?_ (fun _ k => XS.iconst X0.here hx rfl (hb hby d2_58) k)
                  show Goes p e below _ (sF s₁ m 59 #[iv p1] [(.int (2 : Int32))])
                  refine own_out X0 hx hlk hret rfl (Or.inl ⟨rfl, by simp, _, rfl⟩) (hb hby d2_59) ?_ (by decide) (by decide)
                  show Q2 Z r h0 n0 _ s₁.heap _
                  rw [e0]
                  exact ⟨by rw [← hr]; simp [maxV, hc1_1, hc9_2, hc16_3, hc23_4, hc31_5, hc39_6, hc47_7, hc55_8], N0, rfl⟩
                · refine Goes.step ?_ (fun _ k => XS.icmpYes X0.here hx rfl (pc0 := 55) (pc' := 60) rfl (hb hby d2_55) rfl (feq hc55_8).2 (by decide) (by decide) k)
                  show Goes p e below _ (sF s₁ m 60 #[iv p1] [])
                  refine Goes.step ?_ (fun _ k => XS.iloadN X0.here hx rfl (hb hby d2_60) rfl  k)
                  show Goes p e below _ (sF s₁ m 61 #[iv p1] [(.int p1)])
                  refine Goes.step ?_ (fun _ k => XS.bipush X0.here hx rfl (hb hby d2_61) k)
                  show Goes p e below _ (sF s₁ m 63 #[iv p1] [(.int (8 : Int32)), (.int p1)])
                  by_cases hc63_9 : p1 = (8 : Int32)
                  · refine Goes.step ?_ (fun _ k => XS.icmpNo X0.here hx rfl (hb hby d2_63) rfl (teq hc63_9).2 k)
                    show Goes p e below _ (sF s₁ m 66 #[iv p1] [])
                    refine Goes.step ?_ (fun _ k => XS.iconst X0.here hx rfl (hb hby d2_66) k)
                    show Goes p e below _ (sF s₁ m 67 #[iv p1] [(.int (3 : Int32))])
                    refine own_out X0 hx hlk hret rfl (Or.inl ⟨rfl, by simp, _, rfl⟩) (hb hby d2_67) ?_ (by decide) (by decide)
                    show Q2 Z r h0 n0 _ s₁.heap _
                    rw [e0]
                    exact ⟨by rw [← hr]; simp [maxV, hc1_1, hc9_2, hc16_3, hc23_4, hc31_5, hc39_6, hc47_7, hc55_8, hc63_9], N0, rfl⟩
                  · refine Goes.step ?_ (fun _ k => XS.icmpYes X0.here hx rfl (pc0 := 63) (pc' := 68) rfl (hb hby d2_63) rfl (feq hc63_9).2 (by decide) (by decide) k)
                    show Goes p e below _ (sF s₁ m 68 #[iv p1] [])
                    refine Goes.step ?_ (fun _ k => XS.iloadN X0.here hx rfl (hb hby d2_68) rfl  k)
                    show Goes p e below _ (sF s₁ m 69 #[iv p1] [(.int p1)])
                    refine Goes.step ?_ (fun _ k => XS.bipush X0.here hx rfl (hb hby d2_69) k)
                    show Goes p e below _ (sF s₁ m 71 #[iv p1] [(.int (9 : Int32)), (.int p1)])
                    by_cases hc71_10 : p1 = (9 : Int32)
                    · refine Goes.step ?_ (fun _ k => XS.icmpNo X0.here hx rfl (hb hby d2_71) rfl (teq hc71_10).2 k)
                      show Goes p e below _ (sF s₁ m 74 #[iv p1] [])
                      refine Goes.step ?_ (fun _ k => XS.iconst X0.here hx rfl (hb hby d2_74) k)
                      show Goes p e below _ (sF s₁ m 75 #[iv p1] [(.int (1 : Int32))])
                      refine own_out X0 hx hlk hret rfl (Or.inl ⟨rfl, by simp, _, rfl⟩) (hb hby d2_75) ?_ (by decide) (by decide)
                      show Q2 Z r h0 n0 _ s₁.heap _
                      rw [e0]
                      exact ⟨by rw [← hr]; simp [maxV, hc1_1, hc9_2, hc16_3, hc23_4, hc31_5, hc39_6, hc47_7, hc55_8, hc63_9, hc71_10], N0, rfl⟩
                    · refine Goes.step ?_ (fun _ k => XS.icmpYes X0.here hx rfl (pc0 := 71) (pc' := 76) rfl (hb hby d2_71) rfl (feq hc71_10).2 (by decide) (by decide) k)
                      show Goes p e below _ (sF s₁ m 76 #[iv p1] [])
                      refine Goes.step ?_ (fun _ k => XS.iconst X0.here hx rfl (hb hby d2_76) k)
                      show Goes p e below _ (sF s₁ m 77 #[iv p1] [(.int (2 : Int32))])
                      refine own_out X0 hx hlk hret rfl (Or.inl ⟨rfl, by simp, _, rfl⟩) (hb hby d2_77) ?_ (by decide) (by decide)
                      show Q2 Z r h0 n0 _ s₁.heap _
                      rw [e0]
                      exact ⟨by rw [← hr]; simp [maxV, hc1_1, hc9_2, hc16_3, hc23_4, hc31_5, hc39_6, hc47_7, hc55_8, hc63_9, hc71_10], N0, rfl⟩
theorem pn_com_example_partition_partition_protocol_Api : plainName "com/example/partition/partition/protocol/Api" = true := by first | (simp [plainName, overriddenIn]; done) | decide +kernel
theorem ef_rm3 (m : MethodId) (x0 : Addr) (x1 : Int32) : entryFrame m #[(.ref x0), (.int x1)] 2 = mkF m 0 #[rv x0, iv x1] [] := by first | (simp [entryFrame, mkF, argsToLocals, Value.category]; done) | rfl
theorem d3_0 : decode prog_44_method_9_code 0 = .ok (.iload_n 1, 1) := by decide +kernel
theorem d3_1 : decode prog_44_method_9_code 1 = .ok (.aload_n 0, 1) := by decide +kernel
theorem d3_2 : decode prog_44_method_9_code 2 = .ok (.getfield 65, 3) := by decide +kernel
theorem d3_5 : decode prog_44_method_9_code 5 = .ok (.if_icmp .lt 15, 3) := by decide +kernel
theorem d3_20 : decode prog_44_method_9_code 20 = .ok (.iconst 0, 1) := by decide +kernel
theorem d3_21 : decode prog_44_method_9_code 21 = .ok (.ireturn, 1) := by decide +kernel
theorem d3_8 : decode prog_44_method_9_code 8 = .ok (.iload_n 1, 1) := by decide +kernel
theorem d3_9 : decode prog_44_method_9_code 9 = .ok (.aload_n 0, 1) := by decide +kernel
theorem d3_10 : decode prog_44_method_9_code 10 = .ok (.getfield 68, 3) := by decide +kernel
theorem d3_13 : decode prog_44_method_9_code 13 = .ok (.if_icmp .gt 7, 3) := by decide +kernel
theorem d3_16 : decode prog_44_method_9_code 16 = .ok (.iconst 1, 1) := by decide +kernel
theorem d3_17 : decode prog_44_method_9_code 17 = .ok (.goto 4, 3) := by decide +kernel
set_option maxRecDepth 65536 in
set_option maxHeartbeats 40000000 in
theorem rm3 (l : Launch) (Z : State) (a0 : Array Value) (hw : ∀ d ∈ tables_1, d.before a0 Z = true) (ws : List Jvm.Cond) (a1 : Addr) (p2 : Int32) (mx : Int32) (r : Int32) (h0 : Heap) (n0 : Nat) (Z0 : n0 ≤ h0.size) (Fmin : Fld Z h0 a1 "com/example/partition/partition/protocol/Api" "minVersion" "S" (.int (0 : Int32))) (Fmax : Fld Z h0 a1 "com/example/partition/partition/protocol/Api" "maxVersion" "S" (.int mx)) (hr : ansV p2 mx = r) :
    MetFree l (⟨"com/example/partition/partition/protocol/Api", "answers", "(S)Z"⟩ : MethodName) (head1 (Jvm.Cond.code (⟨"com/example/partition/partition/protocol/Api", "answers", "(S)Z"⟩ : MethodName) prog_44_method_9_code 2 (some .boolean) :: ws) ({ frames := 0, cells := 0, slots := 0, locals := 0 } : Room)) (fun a U => a = #[(.ref a1), (.int p2)] ∧ Z.Warmed39 U.vm ∧ U.heap = h0) (fun _ _ _ _ _ => True) (fun _ U o U' => ∃ v L, o = .returned v ∧ Q2 Z r h0 n0 v U'.heap L ∧ FrameEnd U o U' L ({ frames := 0, cells := 0, slots := 0, locals := 0 } : Room).cells ({ frames := 0, cells := 0, slots := 0, locals := 0 } : Room).slots) := by
  refine MetFree.of_bodySF (plainFor_of_name pn_com_example_partition_partition_protocol_Api) hisR ?_
  intro p e s m args below meth c s₁ Bd hml0 hP hK
  obtain ⟨rfl, hZ, hh⟩ := hP
  have hx := Bd.exec
  have hby := Bd.bytes
  have hlk : meth.locks = false := BodyLoose.notSynchronized Bd
  have hml : c.maxLocals = 2 := hml0
  have hown : s.vm.findClass "com/example/partition/partition/protocol/Api" = some m.cls := findClass_of_methodNamed Bd.named
  have hnm := (name_of_methodNamed Bd.named Bd.method).1
  have X0 : Stand p l e ({ frames := 0, cells := 0, slots := 0, locals := 0 } : Room) s m #[(.ref a1), (.int p2)] below meth c s₁ [] 0 0 := Stand.of_body Bd
  have e0 : s₁.heap = h0 := by rw [← hh, Bd.state]; rfl
  have N0 := Fr.nil n0
  have hret := Bd.returns
  show Goes p e below (fun o U' => ∃ v L, o = .returned v ∧ Q2 Z r h0 n0 v U'.heap L ∧ FrameEnd s o U' L ({ frames := 0, cells := 0, slots := 0, locals := 0 } : Room).cells ({ frames := 0, cells := 0, slots := 0, locals := 0 } : Room).slots) (s₁.setTop (entryFrame m #[(.ref a1), (.int p2)] 2))
  refine Goes.step ?_ (fun _ k => castTop (ef_rm3 m a1 p2) k)
  show Goes p e below _ (sF s₁ m 0 #[rv a1, iv p2] [])
  refine Goes.step ?_ (fun _ k => XS.iloadN X0.here hx rfl (hb hby d3_0) rfl  k)
  show Goes p e below _ (sF s₁ m 1 #[rv a1, iv p2] [(.int p2)])
  refine Goes.step ?_ (fun _ k => XS.aloadN X0.here hx rfl (hb hby d3_1) rfl rfl k)
  show Goes p e below _ (sF s₁ m 2 #[rv a1, iv p2] [(.ref a1), (.int p2)])
  obtain ⟨T1, X1, e1, st1⟩ := getF X0 hx hZ hown (host := "") (Or.inl (hw _ (List.mem_of_getElem? (i := 16) rfl))) Via.refl e0 Fmin (g := (mkF m 2 #[rv a1, iv p2] [(.ref a1), (.int p2)])) rfl rfl (hb hby d3_2)
  refine Goes.step ?_ st1
  show Goes p e below _ (sF T1 m 5 #[rv a1, iv p2] [(.int (0 : Int32)), (.int p2)])
  by_cases hc5_2 : p2 < (0 : Int32)
  · refine Goes.step ?_ (fun _ k => XS.icmpYes X1.here hx rfl (pc0 := 5) (pc' := 20) rfl (hb hby d3_5) rfl (tlt hc5_2).1 (by decide) (by decide) k)
    show Goes p e below _ (sF T1 m 20 #[rv a1, iv p2] [])
    refine Goes.step ?_ (fun _ k => XS.iconst X1.here hx rfl (hb hby d3_20) k)
    show Goes p e below _ (sF T1 m 21 #[rv a1, iv p2] [(.int (0 : Int32))])
    refine own_out X1 hx hlk hret rfl (Or.inl ⟨rfl, by simp, _, rfl⟩) (hb hby d3_21) ?_ (by decide) (by decide)
    show Q2 Z r h0 n0 _ T1.heap _
    rw [e1]
    exact ⟨by rw [← hr]; simp [ansV, hc5_2], N0, rfl⟩
  · refine Goes.step ?_ (fun _ k => XS.icmpNo X1.here hx rfl (hb hby d3_5) rfl (flt hc5_2).1 k)
    show Goes p e below _ (sF T1 m 8 #[rv a1, iv p2] [])
    refine Goes.step ?_ (fun _ k => XS.iloadN X1.here hx rfl (hb hby d3_8) rfl  k)
    show Goes p e below _ (sF T1 m 9 #[rv a1, iv p2] [(.int p2)])
    refine Goes.step ?_ (fun _ k => XS.aloadN X1.here hx rfl (hb hby d3_9) rfl rfl k)
    show Goes p e below _ (sF T1 m 10 #[rv a1, iv p2] [(.ref a1), (.int p2)])
    obtain ⟨T3, X3, e3, st3⟩ := getF X1 hx hZ hown (host := "") (Or.inl (hw _ (List.mem_of_getElem? (i := 18) rfl))) Via.refl e1 Fmax (g := (mkF m 10 #[rv a1, iv p2] [(.ref a1), (.int p2)])) rfl rfl (hb hby d3_10)
    refine Goes.step ?_ st3
    show Goes p e below _ (sF T3 m 13 #[rv a1, iv p2] [(.int mx), (.int p2)])
    by_cases hc13_4 : mx < p2
    · refine Goes.step ?_ (fun _ k => XS.icmpYes X3.here hx rfl (pc0 := 13) (pc' := 20) rfl (hb hby d3_13) rfl (tlt hc13_4).2.2.1 (by decide) (by decide) k)
      show Goes p e below _ (sF T3 m 20 #[rv a1, iv p2] [])
      refine Goes.step ?_ (fun _ k => XS.iconst X3.here hx rfl (hb hby d3_20) k)
      show Goes p e below _ (sF T3 m 21 #[rv a1, iv p2] [(.int (0 : Int32))])
      refine own_out X3 hx hlk hret rfl (Or.inl ⟨rfl, by simp, _, rfl⟩) (hb hby d3_21) ?_ (by decide) (by decide)
      show Q2 Z r h0 n0 _ T3.heap _
      rw [e3]
      exact ⟨by rw [← hr]; simp [ansV, hc5_2, hc13_4], N0, rfl⟩
    · refine Goes.step ?_ (fun _ k => XS.icmpNo X3.here hx rfl (hb hby d3_13) rfl (flt hc13_4).2.2.1 k)
      show Goes p e below _ (sF T3 m 16 #[rv a1, iv p2] [])
      refine Goes.step ?_ (fun _ k => XS.iconst X3.here hx rfl (hb hby d3_16) k)
      show Goes p e below _ (sF T3 m 17 #[rv a1, iv p2] [(.int (1 : Int32))])
      refine Goes.step ?_ (fun _ k => XS.goto X3.here hx rfl (pc0 := 17) (pc' := 21) rfl (hb hby d3_17) (by decide) (by decide) k)
      show Goes p e below _ (sF T3 m 21 #[rv a1, iv p2] [(.int (1 : Int32))])
      refine own_out X3 hx hlk hret rfl (Or.inl ⟨rfl, by simp, _, rfl⟩) (hb hby d3_21) ?_ (by decide) (by decide)
      show Q2 Z r h0 n0 _ T3.heap _
      rw [e3]
      exact ⟨by rw [← hr]; simp [ansV, hc5_2, hc13_4], N0, rfl⟩
theorem ef_rm0 (m : MethodId) (x0 : Int32) (x1 : Int32) (x2 : Int32) : entryFrame m #[(.int x0), (.int x1), (.int x2)] maxLocals = mkF m 0 #[iv x0, iv x1, iv x2, .unset, .unset, .unset, .unset, .unset, .unset, .unset] [] := by first | (simp [entryFrame, mkF, argsToLocals, Value.category, maxLocals]; done) | rfl
def Q0 (Z : State) (h0 : Heap) (n0 : Nat) (v : Option Value) (h : Heap) (L : List Loc) : Prop := v = some (.int 1) ∧ Fr n0 L
theorem pd__28I_29Lcom_2fexample_2fpartition_2fpartition_2fprotocol_2fApi_3b : parseMethodDescriptor "(I)Lcom/example/partition/partition/protocol/Api;" = some ⟨[.int], some (.object "com/example/partition/partition/protocol/Api")⟩ := by decide +kernel
theorem pd__28I_29I : parseMethodDescriptor "(I)I" = some ⟨[.int], some .int⟩ := by decide +kernel
theorem pd__28S_29Z : parseMethodDescriptor "(S)Z" = some ⟨[.short], some .boolean⟩ := by decide +kernel
set_option maxRecDepth 65536 in
set_option maxHeartbeats 40000000 in
theorem rm0 (l : Launch) (Z : State) (a0 : Array Value) (hw : ∀ d ∈ tables_1, d.before a0 Z = true) (ws : List Jvm.Cond) (p1 : Int32) (p2 : Int32) (p3 : Int32) (w0 : Addr) (w1 : Addr) (w2 : Addr) (w3 : Addr) (w4 : Addr) (w5 : Addr) (w6 : Addr) (w7 : Addr) (w8 : Addr) (w9 : Addr) (w10 : Addr) (a : Addr) (mx : Int32) (h0 : Heap) (n0 : Nat) (Z0 : n0 ≤ h0.size) (S_METADATA : Sta Z h0 "com/example/partition/partition/protocol/Api" "METADATA" "Lcom/example/partition/partition/protocol/Api;" (.ref w0)) (S_SASL_HANDSHAKE : Sta Z h0 "com/example/partition/partition/protocol/Api" "SASL_HANDSHAKE" "Lcom/example/partition/partition/protocol/Api;" (.ref w1)) (S_API_VERSIONS : Sta Z h0 "com/example/partition/partition/protocol/Api" "API_VERSIONS" "Lcom/example/partition/partition/protocol/Api;" (.ref w2)) (S_CREATE_TOPICS : Sta Z h0 "com/example/partition/partition/protocol/Api" "CREATE_TOPICS" "Lcom/example/partition/partition/protocol/Api;" (.ref w3)) (S_DELETE_TOPICS : Sta Z h0 "com/example/partition/partition/protocol/Api" "DELETE_TOPICS" "Lcom/example/partition/partition/protocol/Api;" (.ref w4)) (S_DESCRIBE_CONFIGS : Sta Z h0 "com/example/partition/partition/protocol/Api" "DESCRIBE_CONFIGS" "Lcom/example/partition/partition/protocol/Api;" (.ref w5)) (S_ALTER_CONFIGS : Sta Z h0 "com/example/partition/partition/protocol/Api" "ALTER_CONFIGS" "Lcom/example/partition/partition/protocol/Api;" (.ref w6)) (S_SASL_AUTHENTICATE : Sta Z h0 "com/example/partition/partition/protocol/Api" "SASL_AUTHENTICATE" "Lcom/example/partition/partition/protocol/Api;" (.ref w7)) (S_CREATE_PARTITIONS : Sta Z h0 "com/example/partition/partition/protocol/Api" "CREATE_PARTITIONS" "Lcom/example/partition/partition/protocol/Api;" (.ref w8)) (S_INCREMENTAL_ALTER_CONFIGS : Sta Z h0 "com/example/partition/partition/protocol/Api" "INCREMENTAL_ALTER_CONFIGS" "Lcom/example/partition/partition/protocol/Api;" (.ref w9)) (S_DESCRIBE_CLUSTER : Sta Z h0 "com/example/partition/partition/protocol/Api" "DESCRIBE_CLUSTER" "Lcom/example/partition/partition/protocol/Api;" (.ref w10)) (E_a : Exa Z h0 a "com/example/partition/partition/protocol/Api") (Fmin : Fld Z h0 a "com/example/partition/partition/protocol/Api" "minVersion" "S" (.int (0 : Int32))) (Fmax : Fld Z h0 a "com/example/partition/partition/protocol/Api" "maxVersion" "S" (.int mx)) (hpick : pickV ((p1 &&& (2147483647 : Int32)) % (11 : Int32)) w0 w1 w2 w3 w4 w5 w6 w7 w8 w9 w10 = a) (hmax : maxV ((p1 &&& (2147483647 : Int32)) % (11 : Int32)) = mx) :
    MetFree l x (head1 (Jvm.Cond.code x code maxLocals ret :: ws) room_1) (fun a U => a = #[(.int p1), (.int p2), (.int p3)] ∧ Z.Warmed39 U.vm ∧ U.heap = h0) (fun _ _ _ _ _ => True) (fun _ U o U' => ∃ v L, o = .returned v ∧ Q0 Z h0 n0 v U'.heap L ∧ FrameEnd U o U' L room_1.cells room_1.slots) := by
  refine MetFree.of_bodySF (plainFor_of_name pn_com_example_partition_partition_protocol_ApiAnswersPinLaw) hisR ?_
  intro p e s m args below meth c s₁ Bd hml0 hP hK
  obtain ⟨rfl, hZ, hh⟩ := hP
  have hx := Bd.exec
  have hby := Bd.bytes
  have hlk : meth.locks = false := BodyLoose.notSynchronized Bd
  have hml : c.maxLocals = 10 := hml0
  have hown : s.vm.findClass "com/example/partition/partition/protocol/ApiAnswersPinLaw" = some m.cls := findClass_of_methodNamed Bd.named
  have hnm := (name_of_methodNamed Bd.named Bd.method).1
  have X0 : Stand p l e room_1 s m #[(.int p1), (.int p2), (.int p3)] below meth c s₁ [] 0 0 := Stand.of_body Bd
  have e0 : s₁.heap = h0 := by rw [← hh, Bd.state]; rfl
  have N0 := Fr.nil n0
  have hret := Bd.returns
  show Goes p e below (fun o U' => ∃ v L, o = .returned v ∧ Q0 Z h0 n0 v U'.heap L ∧ FrameEnd s o U' L room_1.cells room_1.slots) (s₁.setTop (entryFrame m #[(.int p1), (.int p2), (.int p3)] maxLocals))
  refine Goes.step ?_ (fun _ k => castTop (ef_rm0 m p1 p2 p3) k)
  show Goes p e below _ (sF s₁ m 0 #[iv p1, iv p2, iv p3, .unset, .unset, .unset, .unset, .unset, .unset, .unset] [])
  refine Goes.step ?_ (fun _ k => XS.iloadN X0.here hx rfl (hb hby at_0) rfl  k)
  show Goes p e below _ (sF s₁ m 1 #[iv p1, iv p2, iv p3, .unset, .unset, .unset, .unset, .unset, .unset, .unset] [(.int p1)])
  refine Goes.step ?_ (fun _ k => X0.ldcI hx hown (mvT hZ (hw _ (List.mem_of_getElem? (i := 0) rfl))) rfl (hb hby at_1) k)
  show Goes p e below _ (sF s₁ m 3 #[iv p1, iv p2, iv p3, .unset, .unset, .unset, .unset, .unset, .unset, .unset] [(.int (2147483647 : Int32)), (.int p1)])
  refine Goes.step ?_ (fun _ k => XS.iand X0.here hx rfl (hb hby at_3) rfl k)
  show Goes p e below _ (sF s₁ m 4 #[iv p1, iv p2, iv p3, .unset, .unset, .unset, .unset, .unset, .unset, .unset] [(.int (p1 &&& (2147483647 : Int32)))])
  refine Goes.step ?_ (fun _ k => XS.bipush X0.here hx rfl (hb hby at_4) k)
  show Goes p e below _ (sF s₁ m 6 #[iv p1, iv p2, iv p3, .unset, .unset, .unset, .unset, .unset, .unset, .unset] [(.int (11 : Int32)), (.int (p1 &&& (2147483647 : Int32)))])
  refine Goes.step ?_ (fun _ k => iremM X0 hx rfl (hb hby at_6) rfl (by decide) k)
  show Goes p e below _ (sF s₁ m 7 #[iv p1, iv p2, iv p3, .unset, .unset, .unset, .unset, .unset, .unset, .unset] [(.int ((p1 &&& (2147483647 : Int32)) % (11 : Int32)))])
  refine Goes.step ?_ (fun _ k => XS.istoreN X0.here hx rfl (hb hby at_7) rfl (l' := #[iv p1, iv p2, iv p3, iv ((p1 &&& (2147483647 : Int32)) % (11 : Int32)), .unset, .unset, .unset, .unset, .unset, .unset]) rfl k)
  show Goes p e below _ (sF s₁ m 8 #[iv p1, iv p2, iv p3, iv ((p1 &&& (2147483647 : Int32)) % (11 : Int32)), .unset, .unset, .unset, .unset, .unset, .unset] [])
  refine Goes.step ?_ (fun _ k => XS.iloadN X0.here hx rfl (hb hby at_8) rfl  k)
  show Goes p e below _ (sF s₁ m 9 #[iv p1, iv p2, iv p3, iv ((p1 &&& (2147483647 : Int32)) % (11 : Int32)), .unset, .unset, .unset, .unset, .unset, .unset] [(.int ((p1 &&& (2147483647 : Int32)) % (11 : Int32)))])
  obtain ⟨_, _, ⟨T1, L1, k1, n1⟩, -, X1, ⟨Lc1, hQ1, l1, y1, z1⟩, st1⟩ := Jvm.LawKit.callS X0 hx (y := (⟨"com/example/partition/partition/protocol/ApiAnswersPinLaw", "pick", "(I)Lcom/example/partition/partition/protocol/Api;"⟩ : MethodName)) hown (mvT hZ (hw _ (List.mem_of_getElem? (i := 1) rfl))) (mvT hZ (hw _ (List.mem_of_getElem? (i := 2) rfl))) (mvT hZ (hw _ (List.mem_of_getElem? (i := 3) rfl))) (mvT hZ (hw _ (List.mem_of_getElem? (i := 4) rfl))) (by decide) (backOf (W := 0) (rm1 l Z a0 hw [] ((p1 &&& (2147483647 : Int32)) % (11 : Int32)) w0 w1 w2 w3 w4 w5 w6 w7 w8 w9 w10 a h0 n0 Z0 S_METADATA S_SASL_HANDSHAKE S_API_VERSIONS S_CREATE_TOPICS S_DELETE_TOPICS S_DESCRIBE_CONFIGS S_ALTER_CONFIGS S_SASL_AUTHENTICATE S_CREATE_PARTITIONS S_INCREMENTAL_ALTER_CONFIGS S_DESCRIBE_CLUSTER hpick) hZ (hw _ (List.mem_of_getElem? (i := 4) rfl)) (hw _ (List.mem_of_getElem? (i := 3) rfl)) (by decide) (by decide)) (g := (mkF m 9 #[iv p1, iv p2, iv p3, iv ((p1 &&& (2147483647 : Int32)) % (11 : Int32)), .unset, .unset, .unset, .unset, .unset, .unset] [(.int ((p1 &&& (2147483647 : Int32)) % (11 : Int32)))])) rfl (by rw [hml]; rfl) (argsL := [(.int ((p1 &&& (2147483647 : Int32)) % (11 : Int32)))]) (rest := []) (lenOf pd__28I_29Lcom_2fexample_2fpartition_2fpartition_2fprotocol_2fApi_3b rfl) rfl (by show 2 * 0 + _ ≤ _; exact Nat.le_of_eq rfl) (hb hby at_9) (fun _ _ => ⟨rfl, e0, (by decide : 0 + 0 ≤ _), (by decide : 0 + 0 ≤ _)⟩)
  dsimp only [Pt.U, Pt.locs, Pt.cells, Pt.slots] at X1 l1 y1 z1 st1 hQ1
  subst l1 y1 z1
  obtain ⟨rfl, N1q, e1⟩ := hQ1
  have N1 := Fr.app N0 N1q
  refine Goes.step ?_ st1
  show Goes p e below _ (sF T1 m 12 #[iv p1, iv p2, iv p3, iv ((p1 &&& (2147483647 : Int32)) % (11 : Int32)), .unset, .unset, .unset, .unset, .unset, .unset] [(.ref a)])
  refine Goes.step ?_ (fun _ k => XS.astore X1.here hx rfl (hb hby at_12) rfl rfl (l' := #[iv p1, iv p2, iv p3, iv ((p1 &&& (2147483647 : Int32)) % (11 : Int32)), rv a, .unset, .unset, .unset, .unset, .unset]) rfl k)
  show Goes p e below _ (sF T1 m 14 #[iv p1, iv p2, iv p3, iv ((p1 &&& (2147483647 : Int32)) % (11 : Int32)), rv a, .unset, .unset, .unset, .unset, .unset] [])
  refine Goes.step ?_ (fun _ k => XS.iloadN X1.here hx rfl (hb hby at_14) rfl  k)
  show Goes p e below _ (sF T1 m 15 #[iv p1, iv p2, iv p3, iv ((p1 &&& (2147483647 : Int32)) % (11 : Int32)), rv a, .unset, .unset, .unset, .unset, .unset] [(.int ((p1 &&& (2147483647 : Int32)) % (11 : Int32)))])
  obtain ⟨_, _, ⟨T2, L2, k2, n2⟩, -, X2, ⟨Lc2, hQ2, l2, y2, z2⟩, st2⟩ := Jvm.LawKit.callS X1 hx (y := (⟨"com/example/partition/partition/protocol/ApiAnswersPinLaw", "maxOf", "(I)I"⟩ : MethodName)) hown (mvT hZ (hw _ (List.mem_of_getElem? (i := 8) rfl))) (mvT hZ (hw _ (List.mem_of_getElem? (i := 9) rfl))) (mvT hZ (hw _ (List.mem_of_getElem? (i := 3) rfl))) (mvT hZ (hw _ (List.mem_of_getElem? (i := 10) rfl))) (by decide) (backOf (W := 0) (rm2 l Z a0 hw [] ((p1 &&& (2147483647 : Int32)) % (11 : Int32)) mx h0 n0 Z0 hmax) hZ (hw _ (List.mem_of_getElem? (i := 10) rfl)) (hw _ (List.mem_of_getElem? (i := 3) rfl)) (by decide) (by decide)) (g := (mkF m 15 #[iv p1, iv p2, iv p3, iv ((p1 &&& (2147483647 : Int32)) % (11 : Int32)), rv a, .unset, .unset, .unset, .unset, .unset] [(.int ((p1 &&& (2147483647 : Int32)) % (11 : Int32)))])) rfl (by rw [hml]; rfl) (argsL := [(.int ((p1 &&& (2147483647 : Int32)) % (11 : Int32)))]) (rest := []) (lenOf pd__28I_29I rfl) rfl (by show 2 * 0 + _ ≤ _; exact Nat.le_of_eq rfl) (hb hby at_15) (fun _ _ => ⟨rfl, e1, (by decide : 0 + 0 ≤ _), (by decide : 0 + 0 ≤ _)⟩)
  dsimp only [Pt.U, Pt.locs, Pt.cells, Pt.slots] at X2 l2 y2 z2 st2 hQ2
  subst l2 y2 z2
  obtain ⟨rfl, N2q, e2⟩ := hQ2
  have N2 := Fr.app N1 N2q
  refine Goes.step ?_ st2
  show Goes p e below _ (sF T2 m 18 #[iv p1, iv p2, iv p3, iv ((p1 &&& (2147483647 : Int32)) % (11 : Int32)), rv a, .unset, .unset, .unset, .unset, .unset] [(.int mx)])
  refine Goes.step ?_ (fun _ k => XS.istore X2.here hx rfl (hb hby at_18) rfl (l' := #[iv p1, iv p2, iv p3, iv ((p1 &&& (2147483647 : Int32)) % (11 : Int32)), rv a, iv mx, .unset, .unset, .unset, .unset]) rfl k)
  show Goes p e below _ (sF T2 m 20 #[iv p1, iv p2, iv p3, iv ((p1 &&& (2147483647 : Int32)) % (11 : Int32)), rv a, iv mx, .unset, .unset, .unset, .unset] [])
  refine Goes.step ?_ (fun _ k => XS.iloadN X2.here hx rfl (hb hby at_20) rfl  k)
  show Goes p e below _ (sF T2 m 21 #[iv p1, iv p2, iv p3, iv ((p1 &&& (2147483647 : Int32)) % (11 : Int32)), rv a, iv mx, .unset, .unset, .unset, .unset] [(.int p2)])
  refine Goes.step ?_ (fun _ k => X2.ldcI hx hown (mvT hZ (hw _ (List.mem_of_getElem? (i := 0) rfl))) rfl (hb hby at_21) k)
  show Goes p e below _ (sF T2 m 23 #[iv p1, iv p2, iv p3, iv ((p1 &&& (2147483647 : Int32)) % (11 : Int32)), rv a, iv mx, .unset, .unset, .unset, .unset] [(.int (2147483647 : Int32)), (.int p2)])
  refine Goes.step ?_ (fun _ k => XS.iand X2.here hx rfl (hb hby at_23) rfl k)
  show Goes p e below _ (sF T2 m 24 #[iv p1, iv p2, iv p3, iv ((p1 &&& (2147483647 : Int32)) % (11 : Int32)), rv a, iv mx, .unset, .unset, .unset, .unset] [(.int (p2 &&& (2147483647 : Int32)))])
  refine Goes.step ?_ (fun _ k => XS.iconst X2.here hx rfl (hb hby at_24) k)
  show Goes p e below _ (sF T2 m 25 #[iv p1, iv p2, iv p3, iv ((p1 &&& (2147483647 : Int32)) % (11 : Int32)), rv a, iv mx, .unset, .unset, .unset, .unset] [(.int (3 : Int32)), (.int (p2 &&& (2147483647 : Int32)))])
  refine Goes.step ?_ (fun _ k => iremM X2 hx rfl (hb hby at_25) rfl (by decide) k)
  show Goes p e below _ (sF T2 m 26 #[iv p1, iv p2, iv p3, iv ((p1 &&& (2147483647 : Int32)) % (11 : Int32)), rv a, iv mx, .unset, .unset, .unset, .unset] [(.int ((p2 &&& (2147483647 : Int32)) % (3 : Int32)))])
  refine Goes.step ?_ (fun _ k => XS.istore X2.here hx rfl (hb hby at_26) rfl (l' := #[iv p1, iv p2, iv p3, iv ((p1 &&& (2147483647 : Int32)) % (11 : Int32)), rv a, iv mx, iv ((p2 &&& (2147483647 : Int32)) % (3 : Int32)), .unset, .unset, .unset]) rfl k)
  show Goes p e below _ (sF T2 m 28 #[iv p1, iv p2, iv p3, iv ((p1 &&& (2147483647 : Int32)) % (11 : Int32)), rv a, iv mx, iv ((p2 &&& (2147483647 : Int32)) % (3 : Int32)), .unset, .unset, .unset] [])
  refine Goes.step ?_ (fun _ k => XS.iload X2.here hx rfl (hb hby at_28) rfl  k)
  show Goes p e below _ (sF T2 m 30 #[iv p1, iv p2, iv p3, iv ((p1 &&& (2147483647 : Int32)) % (11 : Int32)), rv a, iv mx, iv ((p2 &&& (2147483647 : Int32)) % (3 : Int32)), .unset, .unset, .unset] [(.int ((p2 &&& (2147483647 : Int32)) % (3 : Int32)))])
  by_cases hc30_3 : ((p2 &&& (2147483647 : Int32)) % (3 : Int32)) = (0 : Int32)
  · refine Goes.step ?_ (fun _ k => XS.ifNo X2.here hx rfl (hb hby at_30) rfl ((if0 _ _).trans (teq hc30_3).2) k)
    show Goes p e below _ (sF T2 m 33 #[iv p1, iv p2, iv p3, iv ((p1 &&& (2147483647 : Int32)) % (11 : Int32)), rv a, iv mx, iv ((p2 &&& (2147483647 : Int32)) % (3 : Int32)), .unset, .unset, .unset] [])
    refine Goes.step ?_ (fun _ k => XS.iloadN X2.here hx rfl (hb hby at_33) rfl  k)
    show Goes p e below _ (sF T2 m 34 #[iv p1, iv p2, iv p3, iv ((p1 &&& (2147483647 : Int32)) % (11 : Int32)), rv a, iv mx, iv ((p2 &&& (2147483647 : Int32)) % (3 : Int32)), .unset, .unset, .unset] [(.int p3)])
    refine Goes.step ?_ (fun _ k => XS.i2s X2.here hx rfl (hb hby at_34) rfl k)
    show Goes p e below _ (sF T2 m 35 #[iv p1, iv p2, iv p3, iv ((p1 &&& (2147483647 : Int32)) % (11 : Int32)), rv a, iv mx, iv ((p2 &&& (2147483647 : Int32)) % (3 : Int32)), .unset, .unset, .unset] [(.int (p3.toInt16.toInt32))])
    refine Goes.step ?_ (fun _ k => XS.istore X2.here hx rfl (hb hby at_35) rfl (l' := #[iv p1, iv p2, iv p3, iv ((p1 &&& (2147483647 : Int32)) % (11 : Int32)), rv a, iv mx, iv ((p2 &&& (2147483647 : Int32)) % (3 : Int32)), iv (p3.toInt16.toInt32), .unset, .unset]) rfl k)
    show Goes p e below _ (sF T2 m 37 #[iv p1, iv p2, iv p3, iv ((p1 &&& (2147483647 : Int32)) % (11 : Int32)), rv a, iv mx, iv ((p2 &&& (2147483647 : Int32)) % (3 : Int32)), iv (p3.toInt16.toInt32), .unset, .unset] [])
    refine Goes.step ?_ (fun _ k => XS.goto X2.here hx rfl (pc0 := 37) (pc' := 69) rfl (hb hby at_37) (by decide) (by decide) k)
    show Goes p e below _ (sF T2 m 69 #[iv p1, iv p2, iv p3, iv ((p1 &&& (2147483647 : Int32)) % (11 : Int32)), rv a, iv mx, iv ((p2 &&& (2147483647 : Int32)) % (3 : Int32)), iv (p3.toInt16.toInt32), .unset, .unset] [])
    refine Goes.step ?_ (fun _ k => XS.iload X2.here hx rfl (hb hby at_69) rfl  k)
    show Goes p e below _ (sF T2 m 71 #[iv p1, iv p2, iv p3, iv ((p1 &&& (2147483647 : Int32)) % (11 : Int32)), rv a, iv mx, iv ((p2 &&& (2147483647 : Int32)) % (3 : Int32)), iv (p3.toInt16.toInt32), .unset, .unset] [(.int (p3.toInt16.toInt32))])
    refine Goes.step ?_ (fun _ k => XS.i2s X2.here hx rfl (hb hby at_71) rfl k)
    show Goes p e below _ (sF T2 m 72 #[iv p1, iv p2, iv p3, iv ((p1 &&& (2147483647 : Int32)) % (11 : Int32)), rv a, iv mx, iv ((p2 &&& (2147483647 : Int32)) % (3 : Int32)), iv (p3.toInt16.toInt32), .unset, .unset] [(.int ((p3.toInt16.toInt32).toInt16.toInt32))])
    refine Goes.step ?_ (fun _ k => XS.istore X2.here hx rfl (hb hby at_72) rfl (l' := #[iv p1, iv p2, iv p3, iv ((p1 &&& (2147483647 : Int32)) % (11 : Int32)), rv a, iv mx, iv ((p2 &&& (2147483647 : Int32)) % (3 : Int32)), iv (p3.toInt16.toInt32), iv ((p3.toInt16.toInt32).toInt16.toInt32), .unset]) rfl k)
    show Goes p e below _ (sF T2 m 74 #[iv p1, iv p2, iv p3, iv ((p1 &&& (2147483647 : Int32)) % (11 : Int32)), rv a, iv mx, iv ((p2 &&& (2147483647 : Int32)) % (3 : Int32)), iv (p3.toInt16.toInt32), iv ((p3.toInt16.toInt32).toInt16.toInt32), .unset] [])
    refine Goes.step ?_ (fun _ k => XS.iload X2.here hx rfl (hb hby at_74) rfl  k)
    show Goes p e below _ (sF T2 m 76 #[iv p1, iv p2, iv p3, iv ((p1 &&& (2147483647 : Int32)) % (11 : Int32)), rv a, iv mx, iv ((p2 &&& (2147483647 : Int32)) % (3 : Int32)), iv (p3.toInt16.toInt32), iv ((p3.toInt16.toInt32).toInt16.toInt32), .unset] [(.int ((p3.toInt16.toInt32).toInt16.toInt32))])
    by_cases hc76_4 : ((p3.toInt16.toInt32).toInt16.toInt32) < (0 : Int32)
    · refine Goes.step ?_ (fun _ k => XS.ifYes X2.here hx rfl (pc0 := 76) (pc' := 90) rfl (hb hby at_76) rfl ((if0 _ _).trans (tlt hc76_4).1) (by decide) (by decide) k)
      show Goes p e below _ (sF T2 m 90 #[iv p1, iv p2, iv p3, iv ((p1 &&& (2147483647 : Int32)) % (11 : Int32)), rv a, iv mx, iv ((p2 &&& (2147483647 : Int32)) % (3 : Int32)), iv (p3.toInt16.toInt32), iv ((p3.toInt16.toInt32).toInt16.toInt32), .unset] [])
      refine Goes.step ?_ (fun _ k => XS.iconst X2.here hx rfl (hb hby at_90) k)
      show Goes p e below _ (sF T2 m 91 #[iv p1, iv p2, iv p3, iv ((p1 &&& (2147483647 : Int32)) % (11 : Int32)), rv a, iv mx, iv ((p2 &&& (2147483647 : Int32)) % (3 : Int32)), iv (p3.toInt16.toInt32), iv ((p3.toInt16.toInt32).toInt16.toInt32), .unset] [(.int (0 : Int32))])
      refine Goes.step ?_ (fun _ k => XS.istore X2.here hx rfl (hb hby at_91) rfl (l' := #[iv p1, iv p2, iv p3, iv ((p1 &&& (2147483647 : Int32)) % (11 : Int32)), rv a, iv mx, iv ((p2 &&& (2147483647 : Int32)) % (3 : Int32)), iv (p3.toInt16.toInt32), iv ((p3.toInt16.toInt32).toInt16.toInt32), iv (0 : Int32)]) rfl k)
      show Goes p e below _ (sF T2 m 93 #[iv p1, iv p2, iv p3, iv ((p1 &&& (2147483647 : Int32)) % (11 : Int32)), rv a, iv mx, iv ((p2 &&& (2147483647 : Int32)) % (3 : Int32)), iv (p3.toInt16.toInt32), iv ((p3.toInt16.toInt32).toInt16.toInt32), iv (0 : Int32)] [])
      refine Goes.step ?_ (fun _ k => XS.aload X2.here hx rfl (hb hby at_93) rfl rfl k)
      show Goes p e below _ (sF T2 m 95 #[iv p1, iv p2, iv p3, iv ((p1 &&& (2147483647 : Int32)) % (11 : Int32)), rv a, iv mx, iv ((p2 &&& (2147483647 : Int32)) % (3 : Int32)), iv (p3.toInt16.toInt32), iv ((p3.toInt16.toInt32).toInt16.toInt32), iv (0 : Int32)] [(.ref a)])
      refine Goes.step ?_ (fun _ k => XS.iload X2.here hx rfl (hb hby at_95) rfl  k)
      show Goes p e below _ (sF T2 m 97 #[iv p1, iv p2, iv p3, iv ((p1 &&& (2147483647 : Int32)) % (11 : Int32)), rv a, iv mx, iv ((p2 &&& (2147483647 : Int32)) % (3 : Int32)), iv (p3.toInt16.toInt32), iv ((p3.toInt16.toInt32).toInt16.toInt32), iv (0 : Int32)] [(.int ((p3.toInt16.toInt32).toInt16.toInt32)), (.ref a)])
      obtain ⟨cq5, kq5, q5a, q5b, q5c⟩ := isOf hZ e2 E_a
      obtain ⟨_, _, ⟨T5, L5, k5, n5⟩, -, X5, ⟨Lc5, hQ5, l5, y5, z5⟩, st5⟩ := X2.virtualBack hx (y := (⟨"com/example/partition/partition/protocol/Api", "answers", "(S)Z"⟩ : MethodName)) (z := (⟨"com/example/partition/partition/protocol/Api", "answers", "(S)Z"⟩ : MethodName)) hown (mvT hZ (hw _ (List.mem_of_getElem? (i := 11) rfl))) (mvT hZ (hw _ (List.mem_of_getElem? (i := 12) rfl))) (notFace_of_selects (args := #[]) (mvT hZ (hw _ (List.mem_of_getElem? (i := 14) rfl)))) (mvT hZ (hw _ (List.mem_of_getElem? (i := 14) rfl))) (mvT hZ (hw _ (List.mem_of_getElem? (i := 13) rfl))) (by decide) (backOf (W := 0) (rm3 l Z a0 hw [] a ((p3.toInt16.toInt32).toInt16.toInt32) mx (0 : Int32) h0 n0 Z0 Fmin Fmax (by unfold ansV; rw [if_pos hc76_4])) hZ (hw _ (List.mem_of_getElem? (i := 15) rfl)) (hw _ (List.mem_of_getElem? (i := 6) rfl)) (by decide) (by decide)) q5a q5c (g := (mkF m 97 #[iv p1, iv p2, iv p3, iv ((p1 &&& (2147483647 : Int32)) % (11 : Int32)), rv a, iv mx, iv ((p2 &&& (2147483647 : Int32)) % (3 : Int32)), iv (p3.toInt16.toInt32), iv ((p3.toInt16.toInt32).toInt16.toInt32), iv (0 : Int32)] [(.int ((p3.toInt16.toInt32).toInt16.toInt32)), (.ref a)])) rfl (by rw [hml]; rfl) (Steps.refl _) (argsL := [(.int ((p3.toInt16.toInt32).toInt16.toInt32))]) (rest := []) (lenOf pd__28S_29Z rfl) rfl (by show 2 * 0 + _ ≤ _; exact Nat.le_of_eq rfl) (hb hby at_97) (fun _ _ => ⟨rfl, e2, (by decide : 0 + 0 ≤ _), (by decide : 0 + 0 ≤ _)⟩)
      dsimp only [Pt.U, Pt.locs, Pt.cells, Pt.slots] at X5 l5 y5 z5 st5 hQ5
      subst l5 y5 z5
      obtain ⟨rfl, N5q, e5⟩ := hQ5
      have N5 := Fr.app N2 N5q
      refine Goes.step ?_ (fun _ k => st5.trans k)
      show Goes p e below _ (sF T5 m 100 #[iv p1, iv p2, iv p3, iv ((p1 &&& (2147483647 : Int32)) % (11 : Int32)), rv a, iv mx, iv ((p2 &&& (2147483647 : Int32)) % (3 : Int32)), iv (p3.toInt16.toInt32), iv ((p3.toInt16.toInt32).toInt16.toInt32), iv (0 : Int32)] [(.int (0 : Int32))])
      refine Goes.step ?_ (fun _ k => XS.iload X5.here hx rfl (hb hby at_100) rfl  k)
      show Goes p e below _ (sF T5 m 102 #[iv p1, iv p2, iv p3, iv ((p1 &&& (2147483647 : Int32)) % (11 : Int32)), rv a, iv mx, iv ((p2 &&& (2147483647 : Int32)) % (3 : Int32)), iv (p3.toInt16.toInt32), iv ((p3.toInt16.toInt32).toInt16.toInt32), iv (0 : Int32)] [(.int (0 : Int32)), (.int (0 : Int32))])
      refine Goes.step ?_ (fun _ k => XS.icmpNo X5.here hx rfl (hb hby at_102) rfl (teq (by decide : (0 : Int32) = (0 : Int32))).2 k)
      show Goes p e below _ (sF T5 m 105 #[iv p1, iv p2, iv p3, iv ((p1 &&& (2147483647 : Int32)) % (11 : Int32)), rv a, iv mx, iv ((p2 &&& (2147483647 : Int32)) % (3 : Int32)), iv (p3.toInt16.toInt32), iv ((p3.toInt16.toInt32).toInt16.toInt32), iv (0 : Int32)] [])
      refine Goes.step ?_ (fun _ k => XS.iconst X5.here hx rfl (hb hby at_105) k)
      show Goes p e below _ (sF T5 m 106 #[iv p1, iv p2, iv p3, iv ((p1 &&& (2147483647 : Int32)) % (11 : Int32)), rv a, iv mx, iv ((p2 &&& (2147483647 : Int32)) % (3 : Int32)), iv (p3.toInt16.toInt32), iv ((p3.toInt16.toInt32).toInt16.toInt32), iv (0 : Int32)] [(.int (1 : Int32))])
      refine Goes.step ?_ (fun _ k => XS.goto X5.here hx rfl (pc0 := 106) (pc' := 110) rfl (hb hby at_106) (by decide) (by decide) k)
      show Goes p e below _ (sF T5 m 110 #[iv p1, iv p2, iv p3, iv ((p1 &&& (2147483647 : Int32)) % (11 : Int32)), rv a, iv mx, iv ((p2 &&& (2147483647 : Int32)) % (3 : Int32)), iv (p3.toInt16.toInt32), iv ((p3.toInt16.toInt32).toInt16.toInt32), iv (0 : Int32)] [(.int (1 : Int32))])
      refine own_out X5 hx hlk hret rfl (Or.inl ⟨rfl, by simp, _, rfl⟩) (hb hby at_110) ?_ (by decide) (by decide)
      show Q0 Z h0 n0 _ T5.heap _
      rw [e5]
      exact ⟨rfl, N5⟩
    · refine Goes.step ?_ (fun _ k => XS.ifNo X2.here hx rfl (hb hby at_76) rfl ((if0 _ _).trans (flt hc76_4).1) k)
      show Goes p e below _ (sF T2 m 79 #[iv p1, iv p2, iv p3, iv ((p1 &&& (2147483647 : Int32)) % (11 : Int32)), rv a, iv mx, iv ((p2 &&& (2147483647 : Int32)) % (3 : Int32)), iv (p3.toInt16.toInt32), iv ((p3.toInt16.toInt32).toInt16.toInt32), .unset] [])
      refine Goes.step ?_ (fun _ k => XS.iload X2.here hx rfl (hb hby at_79) rfl  k)
      show Goes p e below _ (sF T2 m 81 #[iv p1, iv p2, iv p3, iv ((p1 &&& (2147483647 : Int32)) % (11 : Int32)), rv a, iv mx, iv ((p2 &&& (2147483647 : Int32)) % (3 : Int32)), iv (p3.toInt16.toInt32), iv ((p3.toInt16.toInt32).toInt16.toInt32), .unset] [(.int ((p3.toInt16.toInt32).toInt16.toInt32))])
      refine Goes.step ?_ (fun _ k => XS.iload X2.here hx rfl (hb hby at_81) rfl  k)
      show Goes p e below _ (sF T2 m 83 #[iv p1, iv p2, iv p3, iv ((p1 &&& (2147483647 : Int32)) % (11 : Int32)), rv a, iv mx, iv ((p2 &&& (2147483647 : Int32)) % (3 : Int32)), iv (p3.toInt16.toInt32), iv ((p3.toInt16.toInt32).toInt16.toInt32), .unset] [(.int mx), (.int ((p3.toInt16.toInt32).toInt16.toInt32))])
      by_cases hc83_6 : mx < ((p3.toInt16.toInt32).toInt16.toInt32)
      · refine Goes.step ?_ (fun _ k => XS.icmpYes X2.here hx rfl (pc0 := 83) (pc' := 90) rfl (hb hby at_83) rfl (tlt hc83_6).2.2.1 (by decide) (by decide) k)
        show Goes p e below _ (sF T2 m 90 #[iv p1, iv p2, iv p3, iv ((p1 &&& (2147483647 : Int32)) % (11 : Int32)), rv a, iv mx, iv ((p2 &&& (2147483647 : Int32)) % (3 : Int32)), iv (p3.toInt16.toInt32), iv ((p3.toInt16.toInt32).toInt16.toInt32), .unset] [])
        refine Goes.step ?_ (fun _ k => XS.iconst X2.here hx rfl (hb hby at_90) k)
        show Goes p e below _ (sF T2 m 91 #[iv p1, iv p2, iv p3, iv ((p1 &&& (2147483647 : Int32)) % (11 : Int32)), rv a, iv mx, iv ((p2 &&& (2147483647 : Int32)) % (3 : Int32)), iv (p3.toInt16.toInt32), iv ((p3.toInt16.toInt32).toInt16.toInt32), .unset] [(.int (0 : Int32))])
        refine Goes.step ?_ (fun _ k => XS.istore X2.here hx rfl (hb hby at_91) rfl (l' := #[iv p1, iv p2, iv p3, iv ((p1 &&& (2147483647 : Int32)) % (11 : Int32)), rv a, iv mx, iv ((p2 &&& (2147483647 : Int32)) % (3 : Int32)), iv (p3.toInt16.toInt32), iv ((p3.toInt16.toInt32).toInt16.toInt32), iv (0 : Int32)]) rfl k)
        show Goes p e below _ (sF T2 m 93 #[iv p1, iv p2, iv p3, iv ((p1 &&& (2147483647 : Int32)) % (11 : Int32)), rv a, iv mx, iv ((p2 &&& (2147483647 : Int32)) % (3 : Int32)), iv (p3.toInt16.toInt32), iv ((p3.toInt16.toInt32).toInt16.toInt32), iv (0 : Int32)] [])
        refine Goes.step ?_ (fun _ k => XS.aload X2.here hx rfl (hb hby at_93) rfl rfl k)
        show Goes p e below _ (sF T2 m 95 #[iv p1, iv p2, iv p3, iv ((p1 &&& (2147483647 : Int32)) % (11 : Int32)), rv a, iv mx, iv ((p2 &&& (2147483647 : Int32)) % (3 : Int32)), iv (p3.toInt16.toInt32), iv ((p3.toInt16.toInt32).toInt16.toInt32), iv (0 : Int32)] [(.ref a)])
        refine Goes.step ?_ (fun _ k => XS.iload X2.here hx rfl (hb hby at_95) rfl  k)
        show Goes p e below _ (sF T2 m 97 #[iv p1, iv p2, iv p3, iv ((p1 &&& (2147483647 : Int32)) % (11 : Int32)), rv a, iv mx, iv ((p2 &&& (2147483647 : Int32)) % (3 : Int32)), iv (p3.toInt16.toInt32), iv ((p3.toInt16.toInt32).toInt16.toInt32), iv (0 : Int32)] [(.int ((p3.toInt16.toInt32).toInt16.toInt32)), (.ref a)])
        obtain ⟨cq7, kq7, q7a, q7b, q7c⟩ := isOf hZ e2 E_a
        obtain ⟨_, _, ⟨T7, L7, k7, n7⟩, -, X7, ⟨Lc7, hQ7, l7, y7, z7⟩, st7⟩ := X2.virtualBack hx (y := (⟨"com/example/partition/partition/protocol/Api", "answers", "(S)Z"⟩ : MethodName)) (z := (⟨"com/example/partition/partition/protocol/Api", "answers", "(S)Z"⟩ : MethodName)) hown (mvT hZ (hw _ (List.mem_of_getElem? (i := 11) rfl))) (mvT hZ (hw _ (List.mem_of_getElem? (i := 12) rfl))) (notFace_of_selects (args := #[]) (mvT hZ (hw _ (List.mem_of_getElem? (i := 14) rfl)))) (mvT hZ (hw _ (List.mem_of_getElem? (i := 14) rfl))) (mvT hZ (hw _ (List.mem_of_getElem? (i := 13) rfl))) (by decide) (backOf (W := 0) (rm3 l Z a0 hw [] a ((p3.toInt16.toInt32).toInt16.toInt32) mx (0 : Int32) h0 n0 Z0 Fmin Fmax (by unfold ansV; rw [if_neg hc76_4, if_pos hc83_6])) hZ (hw _ (List.mem_of_getElem? (i := 15) rfl)) (hw _ (List.mem_of_getElem? (i := 6) rfl)) (by decide) (by decide)) q7a q7c (g := (mkF m 97 #[iv p1, iv p2, iv p3, iv ((p1 &&& (2147483647 : Int32)) % (11 : Int32)), rv a, iv mx, iv ((p2 &&& (2147483647 : Int32)) % (3 : Int32)), iv (p3.toInt16.toInt32), iv ((p3.toInt16.toInt32).toInt16.toInt32), iv (0 : Int32)] [(.int ((p3.toInt16.toInt32).toInt16.toInt32)), (.ref a)])) rfl (by rw [hml]; rfl) (Steps.refl _) (argsL := [(.int ((p3.toInt16.toInt32).toInt16.toInt32))]) (rest := []) (lenOf pd__28S_29Z rfl) rfl (by show 2 * 0 + _ ≤ _; exact Nat.le_of_eq rfl) (hb hby at_97) (fun _ _ => ⟨rfl, e2, (by decide : 0 + 0 ≤ _), (by decide : 0 + 0 ≤ _)⟩)
        dsimp only [Pt.U, Pt.locs, Pt.cells, Pt.slots] at X7 l7 y7 z7 st7 hQ7
        subst l7 y7 z7
        obtain ⟨rfl, N7q, e7⟩ := hQ7
        have N7 := Fr.app N2 N7q
        refine Goes.step ?_ (fun _ k => st7.trans k)
        show Goes p e below _ (sF T7 m 100 #[iv p1, iv p2, iv p3, iv ((p1 &&& (2147483647 : Int32)) % (11 : Int32)), rv a, iv mx, iv ((p2 &&& (2147483647 : Int32)) % (3 : Int32)), iv (p3.toInt16.toInt32), iv ((p3.toInt16.toInt32).toInt16.toInt32), iv (0 : Int32)] [(.int (0 : Int32))])
        refine Goes.step ?_ (fun _ k => XS.iload X7.here hx rfl (hb hby at_100) rfl  k)
        show Goes p e below _ (sF T7 m 102 #[iv p1, iv p2, iv p3, iv ((p1 &&& (2147483647 : Int32)) % (11 : Int32)), rv a, iv mx, iv ((p2 &&& (2147483647 : Int32)) % (3 : Int32)), iv (p3.toInt16.toInt32), iv ((p3.toInt16.toInt32).toInt16.toInt32), iv (0 : Int32)] [(.int (0 : Int32)), (.int (0 : Int32))])
        refine Goes.step ?_ (fun _ k => XS.icmpNo X7.here hx rfl (hb hby at_102) rfl (teq (by decide : (0 : Int32) = (0 : Int32))).2 k)
        show Goes p e below _ (sF T7 m 105 #[iv p1, iv p2, iv p3, iv ((p1 &&& (2147483647 : Int32)) % (11 : Int32)), rv a, iv mx, iv ((p2 &&& (2147483647 : Int32)) % (3 : Int32)), iv (p3.toInt16.toInt32), iv ((p3.toInt16.toInt32).toInt16.toInt32), iv (0 : Int32)] [])
        refine Goes.step ?_ (fun _ k => XS.iconst X7.here hx rfl (hb hby at_105) k)
        show Goes p e below _ (sF T7 m 106 #[iv p1, iv p2, iv p3, iv ((p1 &&& (2147483647 : Int32)) % (11 : Int32)), rv a, iv mx, iv ((p2 &&& (2147483647 : Int32)) % (3 : Int32)), iv (p3.toInt16.toInt32), iv ((p3.toInt16.toInt32).toInt16.toInt32), iv (0 : Int32)] [(.int (1 : Int32))])
        refine Goes.step ?_ (fun _ k => XS.goto X7.here hx rfl (pc0 := 106) (pc' := 110) rfl (hb hby at_106) (by decide) (by decide) k)
        show Goes p e below _ (sF T7 m 110 #[iv p1, iv p2, iv p3, iv ((p1 &&& (2147483647 : Int32)) % (11 : Int32)), rv a, iv mx, iv ((p2 &&& (2147483647 : Int32)) % (3 : Int32)), iv (p3.toInt16.toInt32), iv ((p3.toInt16.toInt32).toInt16.toInt32), iv (0 : Int32)] [(.int (1 : Int32))])
        refine own_out X7 hx hlk hret rfl (Or.inl ⟨rfl, by simp, _, rfl⟩) (hb hby at_110) ?_ (by decide) (by decide)
        show Q0 Z h0 n0 _ T7.heap _
        rw [e7]
        exact ⟨rfl, N7⟩
      · refine Goes.step ?_ (fun _ k => XS.icmpNo X2.here hx rfl (hb hby at_83) rfl (flt hc83_6).2.2.1 k)
        show Goes p e below _ (sF T2 m 86 #[iv p1, iv p2, iv p3, iv ((p1 &&& (2147483647 : Int32)) % (11 : Int32)), rv a, iv mx, iv ((p2 &&& (2147483647 : Int32)) % (3 : Int32)), iv (p3.toInt16.toInt32), iv ((p3.toInt16.toInt32).toInt16.toInt32), .unset] [])
        refine Goes.step ?_ (fun _ k => XS.iconst X2.here hx rfl (hb hby at_86) k)
        show Goes p e below _ (sF T2 m 87 #[iv p1, iv p2, iv p3, iv ((p1 &&& (2147483647 : Int32)) % (11 : Int32)), rv a, iv mx, iv ((p2 &&& (2147483647 : Int32)) % (3 : Int32)), iv (p3.toInt16.toInt32), iv ((p3.toInt16.toInt32).toInt16.toInt32), .unset] [(.int (1 : Int32))])
        refine Goes.step ?_ (fun _ k => XS.goto X2.here hx rfl (pc0 := 87) (pc' := 91) rfl (hb hby at_87) (by decide) (by decide) k)
        show Goes p e below _ (sF T2 m 91 #[iv p1, iv p2, iv p3, iv ((p1 &&& (2147483647 : Int32)) % (11 : Int32)), rv a, iv mx, iv ((p2 &&& (2147483647 : Int32)) % (3 : Int32)), iv (p3.toInt16.toInt32), iv ((p3.toInt16.toInt32).toInt16.toInt32), .unset] [(.int (1 : Int32))])
        refine Goes.step ?_ (fun _ k => XS.istore X2.here hx rfl (hb hby at_91) rfl (l' := #[iv p1, iv p2, iv p3, iv ((p1 &&& (2147483647 : Int32)) % (11 : Int32)), rv a, iv mx, iv ((p2 &&& (2147483647 : Int32)) % (3 : Int32)), iv (p3.toInt16.toInt32), iv ((p3.toInt16.toInt32).toInt16.toInt32), iv (1 : Int32)]) rfl k)
        show Goes p e below _ (sF T2 m 93 #[iv p1, iv p2, iv p3, iv ((p1 &&& (2147483647 : Int32)) % (11 : Int32)), rv a, iv mx, iv ((p2 &&& (2147483647 : Int32)) % (3 : Int32)), iv (p3.toInt16.toInt32), iv ((p3.toInt16.toInt32).toInt16.toInt32), iv (1 : Int32)] [])
        refine Goes.step ?_ (fun _ k => XS.aload X2.here hx rfl (hb hby at_93) rfl rfl k)
        show Goes p e below _ (sF T2 m 95 #[iv p1, iv p2, iv p3, iv ((p1 &&& (2147483647 : Int32)) % (11 : Int32)), rv a, iv mx, iv ((p2 &&& (2147483647 : Int32)) % (3 : Int32)), iv (p3.toInt16.toInt32), iv ((p3.toInt16.toInt32).toInt16.toInt32), iv (1 : Int32)] [(.ref a)])
        refine Goes.step ?_ (fun _ k => XS.iload X2.here hx rfl (hb hby at_95) rfl  k)
        show Goes p e below _ (sF T2 m 97 #[iv p1, iv p2, iv p3, iv ((p1 &&& (2147483647 : Int32)) % (11 : Int32)), rv a, iv mx, iv ((p2 &&& (2147483647 : Int32)) % (3 : Int32)), iv (p3.toInt16.toInt32), iv ((p3.toInt16.toInt32).toInt16.toInt32), iv (1 : Int32)] [(.int ((p3.toInt16.toInt32).toInt16.toInt32)), (.ref a)])
        obtain ⟨cq8, kq8, q8a, q8b, q8c⟩ := isOf hZ e2 E_a
        obtain ⟨_, _, ⟨T8, L8, k8, n8⟩, -, X8, ⟨Lc8, hQ8, l8, y8, z8⟩, st8⟩ := X2.virtualBack hx (y := (⟨"com/example/partition/partition/protocol/Api", "answers", "(S)Z"⟩ : MethodName)) (z := (⟨"com/example/partition/partition/protocol/Api", "answers", "(S)Z"⟩ : MethodName)) hown (mvT hZ (hw _ (List.mem_of_getElem? (i := 11) rfl))) (mvT hZ (hw _ (List.mem_of_getElem? (i := 12) rfl))) (notFace_of_selects (args := #[]) (mvT hZ (hw _ (List.mem_of_getElem? (i := 14) rfl)))) (mvT hZ (hw _ (List.mem_of_getElem? (i := 14) rfl))) (mvT hZ (hw _ (List.mem_of_getElem? (i := 13) rfl))) (by decide) (backOf (W := 0) (rm3 l Z a0 hw [] a ((p3.toInt16.toInt32).toInt16.toInt32) mx (1 : Int32) h0 n0 Z0 Fmin Fmax (by unfold ansV; rw [if_neg hc76_4, if_neg hc83_6])) hZ (hw _ (List.mem_of_getElem? (i := 15) rfl)) (hw _ (List.mem_of_getElem? (i := 6) rfl)) (by decide) (by decide)) q8a q8c (g := (mkF m 97 #[iv p1, iv p2, iv p3, iv ((p1 &&& (2147483647 : Int32)) % (11 : Int32)), rv a, iv mx, iv ((p2 &&& (2147483647 : Int32)) % (3 : Int32)), iv (p3.toInt16.toInt32), iv ((p3.toInt16.toInt32).toInt16.toInt32), iv (1 : Int32)] [(.int ((p3.toInt16.toInt32).toInt16.toInt32)), (.ref a)])) rfl (by rw [hml]; rfl) (Steps.refl _) (argsL := [(.int ((p3.toInt16.toInt32).toInt16.toInt32))]) (rest := []) (lenOf pd__28S_29Z rfl) rfl (by show 2 * 0 + _ ≤ _; exact Nat.le_of_eq rfl) (hb hby at_97) (fun _ _ => ⟨rfl, e2, (by decide : 0 + 0 ≤ _), (by decide : 0 + 0 ≤ _)⟩)
        dsimp only [Pt.U, Pt.locs, Pt.cells, Pt.slots] at X8 l8 y8 z8 st8 hQ8
        subst l8 y8 z8
        obtain ⟨rfl, N8q, e8⟩ := hQ8
        have N8 := Fr.app N2 N8q
        refine Goes.step ?_ (fun _ k => st8.trans k)
        show Goes p e below _ (sF T8 m 100 #[iv p1, iv p2, iv p3, iv ((p1 &&& (2147483647 : Int32)) % (11 : Int32)), rv a, iv mx, iv ((p2 &&& (2147483647 : Int32)) % (3 : Int32)), iv (p3.toInt16.toInt32), iv ((p3.toInt16.toInt32).toInt16.toInt32), iv (1 : Int32)] [(.int (1 : Int32))])
        refine Goes.step ?_ (fun _ k => XS.iload X8.here hx rfl (hb hby at_100) rfl  k)
        show Goes p e below _ (sF T8 m 102 #[iv p1, iv p2, iv p3, iv ((p1 &&& (2147483647 : Int32)) % (11 : Int32)), rv a, iv mx, iv ((p2 &&& (2147483647 : Int32)) % (3 : Int32)), iv (p3.toInt16.toInt32), iv ((p3.toInt16.toInt32).toInt16.toInt32), iv (1 : Int32)] [(.int (1 : Int32)), (.int (1 : Int32))])
        refine Goes.step ?_ (fun _ k => XS.icmpNo X8.here hx rfl (hb hby at_102) rfl (teq (by decide : (1 : Int32) = (1 : Int32))).2 k)
        show Goes p e below _ (sF T8 m 105 #[iv p1, iv p2, iv p3, iv ((p1 &&& (2147483647 : Int32)) % (11 : Int32)), rv a, iv mx, iv ((p2 &&& (2147483647 : Int32)) % (3 : Int32)), iv (p3.toInt16.toInt32), iv ((p3.toInt16.toInt32).toInt16.toInt32), iv (1 : Int32)] [])
        refine Goes.step ?_ (fun _ k => XS.iconst X8.here hx rfl (hb hby at_105) k)
        show Goes p e below _ (sF T8 m 106 #[iv p1, iv p2, iv p3, iv ((p1 &&& (2147483647 : Int32)) % (11 : Int32)), rv a, iv mx, iv ((p2 &&& (2147483647 : Int32)) % (3 : Int32)), iv (p3.toInt16.toInt32), iv ((p3.toInt16.toInt32).toInt16.toInt32), iv (1 : Int32)] [(.int (1 : Int32))])
        refine Goes.step ?_ (fun _ k => XS.goto X8.here hx rfl (pc0 := 106) (pc' := 110) rfl (hb hby at_106) (by decide) (by decide) k)
        show Goes p e below _ (sF T8 m 110 #[iv p1, iv p2, iv p3, iv ((p1 &&& (2147483647 : Int32)) % (11 : Int32)), rv a, iv mx, iv ((p2 &&& (2147483647 : Int32)) % (3 : Int32)), iv (p3.toInt16.toInt32), iv ((p3.toInt16.toInt32).toInt16.toInt32), iv (1 : Int32)] [(.int (1 : Int32))])
        refine own_out X8 hx hlk hret rfl (Or.inl ⟨rfl, by simp, _, rfl⟩) (hb hby at_110) ?_ (by decide) (by decide)
        show Q0 Z h0 n0 _ T8.heap _
        rw [e8]
        exact ⟨rfl, N8⟩
  · refine Goes.step ?_ (fun _ k => XS.ifYes X2.here hx rfl (pc0 := 30) (pc' := 40) rfl (hb hby at_30) rfl ((if0 _ _).trans (feq hc30_3).2) (by decide) (by decide) k)
    show Goes p e below _ (sF T2 m 40 #[iv p1, iv p2, iv p3, iv ((p1 &&& (2147483647 : Int32)) % (11 : Int32)), rv a, iv mx, iv ((p2 &&& (2147483647 : Int32)) % (3 : Int32)), .unset, .unset, .unset] [])
    refine Goes.step ?_ (fun _ k => XS.iload X2.here hx rfl (hb hby at_40) rfl  k)
    show Goes p e below _ (sF T2 m 42 #[iv p1, iv p2, iv p3, iv ((p1 &&& (2147483647 : Int32)) % (11 : Int32)), rv a, iv mx, iv ((p2 &&& (2147483647 : Int32)) % (3 : Int32)), .unset, .unset, .unset] [(.int ((p2 &&& (2147483647 : Int32)) % (3 : Int32)))])
    refine Goes.step ?_ (fun _ k => XS.iconst X2.here hx rfl (hb hby at_42) k)
    show Goes p e below _ (sF T2 m 43 #[iv p1, iv p2, iv p3, iv ((p1 &&& (2147483647 : Int32)) % (11 : Int32)), rv a, iv mx, iv ((p2 &&& (2147483647 : Int32)) % (3 : Int32)), .unset, .unset, .unset] [(.int (1 : Int32)), (.int ((p2 &&& (2147483647 : Int32)) % (3 : Int32)))])
    by_cases hc43_9 : ((p2 &&& (2147483647 : Int32)) % (3 : Int32)) = (1 : Int32)
    · refine Goes.step ?_ (fun _ k => XS.icmpNo X2.here hx rfl (hb hby at_43) rfl (teq hc43_9).2 k)
      show Goes p e below _ (sF T2 m 46 #[iv p1, iv p2, iv p3, iv ((p1 &&& (2147483647 : Int32)) % (11 : Int32)), rv a, iv mx, iv ((p2 &&& (2147483647 : Int32)) % (3 : Int32)), .unset, .unset, .unset] [])
      refine Goes.step ?_ (fun _ k => XS.iload X2.here hx rfl (hb hby at_46) rfl  k)
      show Goes p e below _ (sF T2 m 48 #[iv p1, iv p2, iv p3, iv ((p1 &&& (2147483647 : Int32)) % (11 : Int32)), rv a, iv mx, iv ((p2 &&& (2147483647 : Int32)) % (3 : Int32)), .unset, .unset, .unset] [(.int mx)])
      refine Goes.step ?_ (fun _ k => XS.iconst X2.here hx rfl (hb hby at_48) k)
      show Goes p e below _ (sF T2 m 49 #[iv p1, iv p2, iv p3, iv ((p1 &&& (2147483647 : Int32)) % (11 : Int32)), rv a, iv mx, iv ((p2 &&& (2147483647 : Int32)) % (3 : Int32)), .unset, .unset, .unset] [(.int (3 : Int32)), (.int mx)])
      refine Goes.step ?_ (fun _ k => XS.isub X2.here hx rfl (hb hby at_49) rfl k)
      show Goes p e below _ (sF T2 m 50 #[iv p1, iv p2, iv p3, iv ((p1 &&& (2147483647 : Int32)) % (11 : Int32)), rv a, iv mx, iv ((p2 &&& (2147483647 : Int32)) % (3 : Int32)), .unset, .unset, .unset] [(.int (mx - (3 : Int32)))])
      refine Goes.step ?_ (fun _ k => XS.iloadN X2.here hx rfl (hb hby at_50) rfl  k)
      show Goes p e below _ (sF T2 m 51 #[iv p1, iv p2, iv p3, iv ((p1 &&& (2147483647 : Int32)) % (11 : Int32)), rv a, iv mx, iv ((p2 &&& (2147483647 : Int32)) % (3 : Int32)), .unset, .unset, .unset] [(.int p3), (.int (mx - (3 : Int32)))])
      refine Goes.step ?_ (fun _ k => XS.bipush X2.here hx rfl (hb hby at_51) k)
      show Goes p e below _ (sF T2 m 53 #[iv p1, iv p2, iv p3, iv ((p1 &&& (2147483647 : Int32)) % (11 : Int32)), rv a, iv mx, iv ((p2 &&& (2147483647 : Int32)) % (3 : Int32)), .unset, .unset, .unset] [(.int (7 : Int32)), (.int p3), (.int (mx - (3 : Int32)))])
      refine Goes.step ?_ (fun _ k => XS.iand X2.here hx rfl (hb hby at_53) rfl k)
      show Goes p e below _ (sF T2 m 54 #[iv p1, iv p2, iv p3, iv ((p1 &&& (2147483647 : Int32)) % (11 : Int32)), rv a, iv mx, iv ((p2 &&& (2147483647 : Int32)) % (3 : Int32)), .unset, .unset, .unset] [(.int (p3 &&& (7 : Int32))), (.int (mx - (3 : Int32)))])
      refine Goes.step ?_ (fun _ k => XS.iadd X2.here hx rfl (hb hby at_54) rfl k)
      show Goes p e below _ (sF T2 m 55 #[iv p1, iv p2, iv p3, iv ((p1 &&& (2147483647 : Int32)) % (11 : Int32)), rv a, iv mx, iv ((p2 &&& (2147483647 : Int32)) % (3 : Int32)), .unset, .unset, .unset] [(.int ((mx - (3 : Int32)) + (p3 &&& (7 : Int32))))])
      refine Goes.step ?_ (fun _ k => XS.istore X2.here hx rfl (hb hby at_55) rfl (l' := #[iv p1, iv p2, iv p3, iv ((p1 &&& (2147483647 : Int32)) % (11 : Int32)), rv a, iv mx, iv ((p2 &&& (2147483647 : Int32)) % (3 : Int32)), iv ((mx - (3 : Int32)) + (p3 &&& (7 : Int32))), .unset, .unset]) rfl k)
      show Goes p e below _ (sF T2 m 57 #[iv p1, iv p2, iv p3, iv ((p1 &&& (2147483647 : Int32)) % (11 : Int32)), rv a, iv mx, iv ((p2 &&& (2147483647 : Int32)) % (3 : Int32)), iv ((mx - (3 : Int32)) + (p3 &&& (7 : Int32))), .unset, .unset] [])
      refine Goes.step ?_ (fun _ k => XS.goto X2.here hx rfl (pc0 := 57) (pc' := 69) rfl (hb hby at_57) (by decide) (by decide) k)
      show Goes p e below _ (sF T2 m 69 #[iv p1, iv p2, iv p3, iv ((p1 &&& (2147483647 : Int32)) % (11 : Int32)), rv a, iv mx, iv ((p2 &&& (2147483647 : Int32)) % (3 : Int32)), iv ((mx - (3 : Int32)) + (p3 &&& (7 : Int32))), .unset, .unset] [])
      refine Goes.step ?_ (fun _ k => XS.iload X2.here hx rfl (hb hby at_69) rfl  k)
      show Goes p e below _ (sF T2 m 71 #[iv p1, iv p2, iv p3, iv ((p1 &&& (2147483647 : Int32)) % (11 : Int32)), rv a, iv mx, iv ((p2 &&& (2147483647 : Int32)) % (3 : Int32)), iv ((mx - (3 : Int32)) + (p3 &&& (7 : Int32))), .unset, .unset] [(.int ((mx - (3 : Int32)) + (p3 &&& (7 : Int32))))])
      refine Goes.step ?_ (fun _ k => XS.i2s X2.here hx rfl (hb hby at_71) rfl k)
      show Goes p e below _ (sF T2 m 72 #[iv p1, iv p2, iv p3, iv ((p1 &&& (2147483647 : Int32)) % (11 : Int32)), rv a, iv mx, iv ((p2 &&& (2147483647 : Int32)) % (3 : Int32)), iv ((mx - (3 : Int32)) + (p3 &&& (7 : Int32))), .unset, .unset] [(.int (((mx - (3 : Int32)) + (p3 &&& (7 : Int32))).toInt16.toInt32))])
      refine Goes.step ?_ (fun _ k => XS.istore X2.here hx rfl (hb hby at_72) rfl (l' := #[iv p1, iv p2, iv p3, iv ((p1 &&& (2147483647 : Int32)) % (11 : Int32)), rv a, iv mx, iv ((p2 &&& (2147483647 : Int32)) % (3 : Int32)), iv ((mx - (3 : Int32)) + (p3 &&& (7 : Int32))), iv (((mx - (3 : Int32)) + (p3 &&& (7 : Int32))).toInt16.toInt32), .unset]) rfl k)
      show Goes p e below _ (sF T2 m 74 #[iv p1, iv p2, iv p3, iv ((p1 &&& (2147483647 : Int32)) % (11 : Int32)), rv a, iv mx, iv ((p2 &&& (2147483647 : Int32)) % (3 : Int32)), iv ((mx - (3 : Int32)) + (p3 &&& (7 : Int32))), iv (((mx - (3 : Int32)) + (p3 &&& (7 : Int32))).toInt16.toInt32), .unset] [])
      refine Goes.step ?_ (fun _ k => XS.iload X2.here hx rfl (hb hby at_74) rfl  k)
      show Goes p e below _ (sF T2 m 76 #[iv p1, iv p2, iv p3, iv ((p1 &&& (2147483647 : Int32)) % (11 : Int32)), rv a, iv mx, iv ((p2 &&& (2147483647 : Int32)) % (3 : Int32)), iv ((mx - (3 : Int32)) + (p3 &&& (7 : Int32))), iv (((mx - (3 : Int32)) + (p3 &&& (7 : Int32))).toInt16.toInt32), .unset] [(.int (((mx - (3 : Int32)) + (p3 &&& (7 : Int32))).toInt16.toInt32))])
      by_cases hc76_10 : (((mx - (3 : Int32)) + (p3 &&& (7 : Int32))).toInt16.toInt32) < (0 : Int32)
      · refine Goes.step ?_ (fun _ k => XS.ifYes X2.here hx rfl (pc0 := 76) (pc' := 90) rfl (hb hby at_76) rfl ((if0 _ _).trans (tlt hc76_10).1) (by decide) (by decide) k)
        show Goes p e below _ (sF T2 m 90 #[iv p1, iv p2, iv p3, iv ((p1 &&& (2147483647 : Int32)) % (11 : Int32)), rv a, iv mx, iv ((p2 &&& (2147483647 : Int32)) % (3 : Int32)), iv ((mx - (3 : Int32)) + (p3 &&& (7 : Int32))), iv (((mx - (3 : Int32)) + (p3 &&& (7 : Int32))).toInt16.toInt32), .unset] [])
        refine Goes.step ?_ (fun _ k => XS.iconst X2.here hx rfl (hb hby at_90) k)
        show Goes p e below _ (sF T2 m 91 #[iv p1, iv p2, iv p3, iv ((p1 &&& (2147483647 : Int32)) % (11 : Int32)), rv a, iv mx, iv ((p2 &&& (2147483647 : Int32)) % (3 : Int32)), iv ((mx - (3 : Int32)) + (p3 &&& (7 : Int32))), iv (((mx - (3 : Int32)) + (p3 &&& (7 : Int32))).toInt16.toInt32), .unset] [(.int (0 : Int32))])
        refine Goes.step ?_ (fun _ k => XS.istore X2.here hx rfl (hb hby at_91) rfl (l' := #[iv p1, iv p2, iv p3, iv ((p1 &&& (2147483647 : Int32)) % (11 : Int32)), rv a, iv mx, iv ((p2 &&& (2147483647 : Int32)) % (3 : Int32)), iv ((mx - (3 : Int32)) + (p3 &&& (7 : Int32))), iv (((mx - (3 : Int32)) + (p3 &&& (7 : Int32))).toInt16.toInt32), iv (0 : Int32)]) rfl k)
        show Goes p e below _ (sF T2 m 93 #[iv p1, iv p2, iv p3, iv ((p1 &&& (2147483647 : Int32)) % (11 : Int32)), rv a, iv mx, iv ((p2 &&& (2147483647 : Int32)) % (3 : Int32)), iv ((mx - (3 : Int32)) + (p3 &&& (7 : Int32))), iv (((mx - (3 : Int32)) + (p3 &&& (7 : Int32))).toInt16.toInt32), iv (0 : Int32)] [])
        refine Goes.step ?_ (fun _ k => XS.aload X2.here hx rfl (hb hby at_93) rfl rfl k)
        show Goes p e below _ (sF T2 m 95 #[iv p1, iv p2, iv p3, iv ((p1 &&& (2147483647 : Int32)) % (11 : Int32)), rv a, iv mx, iv ((p2 &&& (2147483647 : Int32)) % (3 : Int32)), iv ((mx - (3 : Int32)) + (p3 &&& (7 : Int32))), iv (((mx - (3 : Int32)) + (p3 &&& (7 : Int32))).toInt16.toInt32), iv (0 : Int32)] [(.ref a)])
        refine Goes.step ?_ (fun _ k => XS.iload X2.here hx rfl (hb hby at_95) rfl  k)
        show Goes p e below _ (sF T2 m 97 #[iv p1, iv p2, iv p3, iv ((p1 &&& (2147483647 : Int32)) % (11 : Int32)), rv a, iv mx, iv ((p2 &&& (2147483647 : Int32)) % (3 : Int32)), iv ((mx - (3 : Int32)) + (p3 &&& (7 : Int32))), iv (((mx - (3 : Int32)) + (p3 &&& (7 : Int32))).toInt16.toInt32), iv (0 : Int32)] [(.int (((mx - (3 : Int32)) + (p3 &&& (7 : Int32))).toInt16.toInt32)), (.ref a)])
        obtain ⟨cq11, kq11, q11a, q11b, q11c⟩ := isOf hZ e2 E_a
        obtain ⟨_, _, ⟨T11, L11, k11, n11⟩, -, X11, ⟨Lc11, hQ11, l11, y11, z11⟩, st11⟩ := X2.virtualBack hx (y := (⟨"com/example/partition/partition/protocol/Api", "answers", "(S)Z"⟩ : MethodName)) (z := (⟨"com/example/partition/partition/protocol/Api", "answers", "(S)Z"⟩ : MethodName)) hown (mvT hZ (hw _ (List.mem_of_getElem? (i := 11) rfl))) (mvT hZ (hw _ (List.mem_of_getElem? (i := 12) rfl))) (notFace_of_selects (args := #[]) (mvT hZ (hw _ (List.mem_of_getElem? (i := 14) rfl)))) (mvT hZ (hw _ (List.mem_of_getElem? (i := 14) rfl))) (mvT hZ (hw _ (List.mem_of_getElem? (i := 13) rfl))) (by decide) (backOf (W := 0) (rm3 l Z a0 hw [] a (((mx - (3 : Int32)) + (p3 &&& (7 : Int32))).toInt16.toInt32) mx (0 : Int32) h0 n0 Z0 Fmin Fmax (by unfold ansV; rw [if_pos hc76_10])) hZ (hw _ (List.mem_of_getElem? (i := 15) rfl)) (hw _ (List.mem_of_getElem? (i := 6) rfl)) (by decide) (by decide)) q11a q11c (g := (mkF m 97 #[iv p1, iv p2, iv p3, iv ((p1 &&& (2147483647 : Int32)) % (11 : Int32)), rv a, iv mx, iv ((p2 &&& (2147483647 : Int32)) % (3 : Int32)), iv ((mx - (3 : Int32)) + (p3 &&& (7 : Int32))), iv (((mx - (3 : Int32)) + (p3 &&& (7 : Int32))).toInt16.toInt32), iv (0 : Int32)] [(.int (((mx - (3 : Int32)) + (p3 &&& (7 : Int32))).toInt16.toInt32)), (.ref a)])) rfl (by rw [hml]; rfl) (Steps.refl _) (argsL := [(.int (((mx - (3 : Int32)) + (p3 &&& (7 : Int32))).toInt16.toInt32))]) (rest := []) (lenOf pd__28S_29Z rfl) rfl (by show 2 * 0 + _ ≤ _; exact Nat.le_of_eq rfl) (hb hby at_97) (fun _ _ => ⟨rfl, e2, (by decide : 0 + 0 ≤ _), (by decide : 0 + 0 ≤ _)⟩)
        dsimp only [Pt.U, Pt.locs, Pt.cells, Pt.slots] at X11 l11 y11 z11 st11 hQ11
        subst l11 y11 z11
        obtain ⟨rfl, N11q, e11⟩ := hQ11
        have N11 := Fr.app N2 N11q
        refine Goes.step ?_ (fun _ k => st11.trans k)
        show Goes p e below _ (sF T11 m 100 #[iv p1, iv p2, iv p3, iv ((p1 &&& (2147483647 : Int32)) % (11 : Int32)), rv a, iv mx, iv ((p2 &&& (2147483647 : Int32)) % (3 : Int32)), iv ((mx - (3 : Int32)) + (p3 &&& (7 : Int32))), iv (((mx - (3 : Int32)) + (p3 &&& (7 : Int32))).toInt16.toInt32), iv (0 : Int32)] [(.int (0 : Int32))])
        refine Goes.step ?_ (fun _ k => XS.iload X11.here hx rfl (hb hby at_100) rfl  k)
        show Goes p e below _ (sF T11 m 102 #[iv p1, iv p2, iv p3, iv ((p1 &&& (2147483647 : Int32)) % (11 : Int32)), rv a, iv mx, iv ((p2 &&& (2147483647 : Int32)) % (3 : Int32)), iv ((mx - (3 : Int32)) + (p3 &&& (7 : Int32))), iv (((mx - (3 : Int32)) + (p3 &&& (7 : Int32))).toInt16.toInt32), iv (0 : Int32)] [(.int (0 : Int32)), (.int (0 : Int32))])
        refine Goes.step ?_ (fun _ k => XS.icmpNo X11.here hx rfl (hb hby at_102) rfl (teq (by decide : (0 : Int32) = (0 : Int32))).2 k)
        show Goes p e below _ (sF T11 m 105 #[iv p1, iv p2, iv p3, iv ((p1 &&& (2147483647 : Int32)) % (11 : Int32)), rv a, iv mx, iv ((p2 &&& (2147483647 : Int32)) % (3 : Int32)), iv ((mx - (3 : Int32)) + (p3 &&& (7 : Int32))), iv (((mx - (3 : Int32)) + (p3 &&& (7 : Int32))).toInt16.toInt32), iv (0 : Int32)] [])
        refine Goes.step ?_ (fun _ k => XS.iconst X11.here hx rfl (hb hby at_105) k)
        show Goes p e below _ (sF T11 m 106 #[iv p1, iv p2, iv p3, iv ((p1 &&& (2147483647 : Int32)) % (11 : Int32)), rv a, iv mx, iv ((p2 &&& (2147483647 : Int32)) % (3 : Int32)), iv ((mx - (3 : Int32)) + (p3 &&& (7 : Int32))), iv (((mx - (3 : Int32)) + (p3 &&& (7 : Int32))).toInt16.toInt32), iv (0 : Int32)] [(.int (1 : Int32))])
        refine Goes.step ?_ (fun _ k => XS.goto X11.here hx rfl (pc0 := 106) (pc' := 110) rfl (hb hby at_106) (by decide) (by decide) k)
        show Goes p e below _ (sF T11 m 110 #[iv p1, iv p2, iv p3, iv ((p1 &&& (2147483647 : Int32)) % (11 : Int32)), rv a, iv mx, iv ((p2 &&& (2147483647 : Int32)) % (3 : Int32)), iv ((mx - (3 : Int32)) + (p3 &&& (7 : Int32))), iv (((mx - (3 : Int32)) + (p3 &&& (7 : Int32))).toInt16.toInt32), iv (0 : Int32)] [(.int (1 : Int32))])
        refine own_out X11 hx hlk hret rfl (Or.inl ⟨rfl, by simp, _, rfl⟩) (hb hby at_110) ?_ (by decide) (by decide)
        show Q0 Z h0 n0 _ T11.heap _
        rw [e11]
        exact ⟨rfl, N11⟩
      · refine Goes.step ?_ (fun _ k => XS.ifNo X2.here hx rfl (hb hby at_76) rfl ((if0 _ _).trans (flt hc76_10).1) k)
        show Goes p e below _ (sF T2 m 79 #[iv p1, iv p2, iv p3, iv ((p1 &&& (2147483647 : Int32)) % (11 : Int32)), rv a, iv mx, iv ((p2 &&& (2147483647 : Int32)) % (3 : Int32)), iv ((mx - (3 : Int32)) + (p3 &&& (7 : Int32))), iv (((mx - (3 : Int32)) + (p3 &&& (7 : Int32))).toInt16.toInt32), .unset] [])
        refine Goes.step ?_ (fun _ k => XS.iload X2.here hx rfl (hb hby at_79) rfl  k)
        show Goes p e below _ (sF T2 m 81 #[iv p1, iv p2, iv p3, iv ((p1 &&& (2147483647 : Int32)) % (11 : Int32)), rv a, iv mx, iv ((p2 &&& (2147483647 : Int32)) % (3 : Int32)), iv ((mx - (3 : Int32)) + (p3 &&& (7 : Int32))), iv (((mx - (3 : Int32)) + (p3 &&& (7 : Int32))).toInt16.toInt32), .unset] [(.int (((mx - (3 : Int32)) + (p3 &&& (7 : Int32))).toInt16.toInt32))])
        refine Goes.step ?_ (fun _ k => XS.iload X2.here hx rfl (hb hby at_81) rfl  k)
        show Goes p e below _ (sF T2 m 83 #[iv p1, iv p2, iv p3, iv ((p1 &&& (2147483647 : Int32)) % (11 : Int32)), rv a, iv mx, iv ((p2 &&& (2147483647 : Int32)) % (3 : Int32)), iv ((mx - (3 : Int32)) + (p3 &&& (7 : Int32))), iv (((mx - (3 : Int32)) + (p3 &&& (7 : Int32))).toInt16.toInt32), .unset] [(.int mx), (.int (((mx - (3 : Int32)) + (p3 &&& (7 : Int32))).toInt16.toInt32))])
        by_cases hc83_12 : mx < (((mx - (3 : Int32)) + (p3 &&& (7 : Int32))).toInt16.toInt32)
        · refine Goes.step ?_ (fun _ k => XS.icmpYes X2.here hx rfl (pc0 := 83) (pc' := 90) rfl (hb hby at_83) rfl (tlt hc83_12).2.2.1 (by decide) (by decide) k)
          show Goes p e below _ (sF T2 m 90 #[iv p1, iv p2, iv p3, iv ((p1 &&& (2147483647 : Int32)) % (11 : Int32)), rv a, iv mx, iv ((p2 &&& (2147483647 : Int32)) % (3 : Int32)), iv ((mx - (3 : Int32)) + (p3 &&& (7 : Int32))), iv (((mx - (3 : Int32)) + (p3 &&& (7 : Int32))).toInt16.toInt32), .unset] [])
          refine Goes.step ?_ (fun _ k => XS.iconst X2.here hx rfl (hb hby at_90) k)
          show Goes p e below _ (sF T2 m 91 #[iv p1, iv p2, iv p3, iv ((p1 &&& (2147483647 : Int32)) % (11 : Int32)), rv a, iv mx, iv ((p2 &&& (2147483647 : Int32)) % (3 : Int32)), iv ((mx - (3 : Int32)) + (p3 &&& (7 : Int32))), iv (((mx - (3 : Int32)) + (p3 &&& (7 : Int32))).toInt16.toInt32), .unset] [(.int (0 : Int32))])
          refine Goes.step ?_ (fun _ k => XS.istore X2.here hx rfl (hb hby at_91) rfl (l' := #[iv p1, iv p2, iv p3, iv ((p1 &&& (2147483647 : Int32)) % (11 : Int32)), rv a, iv mx, iv ((p2 &&& (2147483647 : Int32)) % (3 : Int32)), iv ((mx - (3 : Int32)) + (p3 &&& (7 : Int32))), iv (((mx - (3 : Int32)) + (p3 &&& (7 : Int32))).toInt16.toInt32), iv (0 : Int32)]) rfl k)
          show Goes p e below _ (sF T2 m 93 #[iv p1, iv p2, iv p3, iv ((p1 &&& (2147483647 : Int32)) % (11 : Int32)), rv a, iv mx, iv ((p2 &&& (2147483647 : Int32)) % (3 : Int32)), iv ((mx - (3 : Int32)) + (p3 &&& (7 : Int32))), iv (((mx - (3 : Int32)) + (p3 &&& (7 : Int32))).toInt16.toInt32), iv (0 : Int32)] [])
          refine Goes.step ?_ (fun _ k => XS.aload X2.here hx rfl (hb hby at_93) rfl rfl k)
          show Goes p e below _ (sF T2 m 95 #[iv p1, iv p2, iv p3, iv ((p1 &&& (2147483647 : Int32)) % (11 : Int32)), rv a, iv mx, iv ((p2 &&& (2147483647 : Int32)) % (3 : Int32)), iv ((mx - (3 : Int32)) + (p3 &&& (7 : Int32))), iv (((mx - (3 : Int32)) + (p3 &&& (7 : Int32))).toInt16.toInt32), iv (0 : Int32)] [(.ref a)])
          refine Goes.step ?_ (fun _ k => XS.iload X2.here hx rfl (hb hby at_95) rfl  k)
          show Goes p e below _ (sF T2 m 97 #[iv p1, iv p2, iv p3, iv ((p1 &&& (2147483647 : Int32)) % (11 : Int32)), rv a, iv mx, iv ((p2 &&& (2147483647 : Int32)) % (3 : Int32)), iv ((mx - (3 : Int32)) + (p3 &&& (7 : Int32))), iv (((mx - (3 : Int32)) + (p3 &&& (7 : Int32))).toInt16.toInt32), iv (0 : Int32)] [(.int (((mx - (3 : Int32)) + (p3 &&& (7 : Int32))).toInt16.toInt32)), (.ref a)])
          obtain ⟨cq13, kq13, q13a, q13b, q13c⟩ := isOf hZ e2 E_a
          obtain ⟨_, _, ⟨T13, L13, k13, n13⟩, -, X13, ⟨Lc13, hQ13, l13, y13, z13⟩, st13⟩ := X2.virtualBack hx (y := (⟨"com/example/partition/partition/protocol/Api", "answers", "(S)Z"⟩ : MethodName)) (z := (⟨"com/example/partition/partition/protocol/Api", "answers", "(S)Z"⟩ : MethodName)) hown (mvT hZ (hw _ (List.mem_of_getElem? (i := 11) rfl))) (mvT hZ (hw _ (List.mem_of_getElem? (i := 12) rfl))) (notFace_of_selects (args := #[]) (mvT hZ (hw _ (List.mem_of_getElem? (i := 14) rfl)))) (mvT hZ (hw _ (List.mem_of_getElem? (i := 14) rfl))) (mvT hZ (hw _ (List.mem_of_getElem? (i := 13) rfl))) (by decide) (backOf (W := 0) (rm3 l Z a0 hw [] a (((mx - (3 : Int32)) + (p3 &&& (7 : Int32))).toInt16.toInt32) mx (0 : Int32) h0 n0 Z0 Fmin Fmax (by unfold ansV; rw [if_neg hc76_10, if_pos hc83_12])) hZ (hw _ (List.mem_of_getElem? (i := 15) rfl)) (hw _ (List.mem_of_getElem? (i := 6) rfl)) (by decide) (by decide)) q13a q13c (g := (mkF m 97 #[iv p1, iv p2, iv p3, iv ((p1 &&& (2147483647 : Int32)) % (11 : Int32)), rv a, iv mx, iv ((p2 &&& (2147483647 : Int32)) % (3 : Int32)), iv ((mx - (3 : Int32)) + (p3 &&& (7 : Int32))), iv (((mx - (3 : Int32)) + (p3 &&& (7 : Int32))).toInt16.toInt32), iv (0 : Int32)] [(.int (((mx - (3 : Int32)) + (p3 &&& (7 : Int32))).toInt16.toInt32)), (.ref a)])) rfl (by rw [hml]; rfl) (Steps.refl _) (argsL := [(.int (((mx - (3 : Int32)) + (p3 &&& (7 : Int32))).toInt16.toInt32))]) (rest := []) (lenOf pd__28S_29Z rfl) rfl (by show 2 * 0 + _ ≤ _; exact Nat.le_of_eq rfl) (hb hby at_97) (fun _ _ => ⟨rfl, e2, (by decide : 0 + 0 ≤ _), (by decide : 0 + 0 ≤ _)⟩)
          dsimp only [Pt.U, Pt.locs, Pt.cells, Pt.slots] at X13 l13 y13 z13 st13 hQ13
          subst l13 y13 z13
          obtain ⟨rfl, N13q, e13⟩ := hQ13
          have N13 := Fr.app N2 N13q
          refine Goes.step ?_ (fun _ k => st13.trans k)
          show Goes p e below _ (sF T13 m 100 #[iv p1, iv p2, iv p3, iv ((p1 &&& (2147483647 : Int32)) % (11 : Int32)), rv a, iv mx, iv ((p2 &&& (2147483647 : Int32)) % (3 : Int32)), iv ((mx - (3 : Int32)) + (p3 &&& (7 : Int32))), iv (((mx - (3 : Int32)) + (p3 &&& (7 : Int32))).toInt16.toInt32), iv (0 : Int32)] [(.int (0 : Int32))])
          refine Goes.step ?_ (fun _ k => XS.iload X13.here hx rfl (hb hby at_100) rfl  k)
          show Goes p e below _ (sF T13 m 102 #[iv p1, iv p2, iv p3, iv ((p1 &&& (2147483647 : Int32)) % (11 : Int32)), rv a, iv mx, iv ((p2 &&& (2147483647 : Int32)) % (3 : Int32)), iv ((mx - (3 : Int32)) + (p3 &&& (7 : Int32))), iv (((mx - (3 : Int32)) + (p3 &&& (7 : Int32))).toInt16.toInt32), iv (0 : Int32)] [(.int (0 : Int32)), (.int (0 : Int32))])
          refine Goes.step ?_ (fun _ k => XS.icmpNo X13.here hx rfl (hb hby at_102) rfl (teq (by decide : (0 : Int32) = (0 : Int32))).2 k)
          show Goes p e below _ (sF T13 m 105 #[iv p1, iv p2, iv p3, iv ((p1 &&& (2147483647 : Int32)) % (11 : Int32)), rv a, iv mx, iv ((p2 &&& (2147483647 : Int32)) % (3 : Int32)), iv ((mx - (3 : Int32)) + (p3 &&& (7 : Int32))), iv (((mx - (3 : Int32)) + (p3 &&& (7 : Int32))).toInt16.toInt32), iv (0 : Int32)] [])
          refine Goes.step ?_ (fun _ k => XS.iconst X13.here hx rfl (hb hby at_105) k)
          show Goes p e below _ (sF T13 m 106 #[iv p1, iv p2, iv p3, iv ((p1 &&& (2147483647 : Int32)) % (11 : Int32)), rv a, iv mx, iv ((p2 &&& (2147483647 : Int32)) % (3 : Int32)), iv ((mx - (3 : Int32)) + (p3 &&& (7 : Int32))), iv (((mx - (3 : Int32)) + (p3 &&& (7 : Int32))).toInt16.toInt32), iv (0 : Int32)] [(.int (1 : Int32))])
          refine Goes.step ?_ (fun _ k => XS.goto X13.here hx rfl (pc0 := 106) (pc' := 110) rfl (hb hby at_106) (by decide) (by decide) k)
          show Goes p e below _ (sF T13 m 110 #[iv p1, iv p2, iv p3, iv ((p1 &&& (2147483647 : Int32)) % (11 : Int32)), rv a, iv mx, iv ((p2 &&& (2147483647 : Int32)) % (3 : Int32)), iv ((mx - (3 : Int32)) + (p3 &&& (7 : Int32))), iv (((mx - (3 : Int32)) + (p3 &&& (7 : Int32))).toInt16.toInt32), iv (0 : Int32)] [(.int (1 : Int32))])
          refine own_out X13 hx hlk hret rfl (Or.inl ⟨rfl, by simp, _, rfl⟩) (hb hby at_110) ?_ (by decide) (by decide)
          show Q0 Z h0 n0 _ T13.heap _
          rw [e13]
          exact ⟨rfl, N13⟩
        · refine Goes.step ?_ (fun _ k => XS.icmpNo X2.here hx rfl (hb hby at_83) rfl (flt hc83_12).2.2.1 k)
          show Goes p e below _ (sF T2 m 86 #[iv p1, iv p2, iv p3, iv ((p1 &&& (2147483647 : Int32)) % (11 : Int32)), rv a, iv mx, iv ((p2 &&& (2147483647 : Int32)) % (3 : Int32)), iv ((mx - (3 : Int32)) + (p3 &&& (7 : Int32))), iv (((mx - (3 : Int32)) + (p3 &&& (7 : Int32))).toInt16.toInt32), .unset] [])
          refine Goes.step ?_ (fun _ k => XS.iconst X2.here hx rfl (hb hby at_86) k)
          show Goes p e below _ (sF T2 m 87 #[iv p1, iv p2, iv p3, iv ((p1 &&& (2147483647 : Int32)) % (11 : Int32)), rv a, iv mx, iv ((p2 &&& (2147483647 : Int32)) % (3 : Int32)), iv ((mx - (3 : Int32)) + (p3 &&& (7 : Int32))), iv (((mx - (3 : Int32)) + (p3 &&& (7 : Int32))).toInt16.toInt32), .unset] [(.int (1 : Int32))])
          refine Goes.step ?_ (fun _ k => XS.goto X2.here hx rfl (pc0 := 87) (pc' := 91) rfl (hb hby at_87) (by decide) (by decide) k)
          show Goes p e below _ (sF T2 m 91 #[iv p1, iv p2, iv p3, iv ((p1 &&& (2147483647 : Int32)) % (11 : Int32)), rv a, iv mx, iv ((p2 &&& (2147483647 : Int32)) % (3 : Int32)), iv ((mx - (3 : Int32)) + (p3 &&& (7 : Int32))), iv (((mx - (3 : Int32)) + (p3 &&& (7 : Int32))).toInt16.toInt32), .unset] [(.int (1 : Int32))])
          refine Goes.step ?_ (fun _ k => XS.istore X2.here hx rfl (hb hby at_91) rfl (l' := #[iv p1, iv p2, iv p3, iv ((p1 &&& (2147483647 : Int32)) % (11 : Int32)), rv a, iv mx, iv ((p2 &&& (2147483647 : Int32)) % (3 : Int32)), iv ((mx - (3 : Int32)) + (p3 &&& (7 : Int32))), iv (((mx - (3 : Int32)) + (p3 &&& (7 : Int32))).toInt16.toInt32), iv (1 : Int32)]) rfl k)
          show Goes p e below _ (sF T2 m 93 #[iv p1, iv p2, iv p3, iv ((p1 &&& (2147483647 : Int32)) % (11 : Int32)), rv a, iv mx, iv ((p2 &&& (2147483647 : Int32)) % (3 : Int32)), iv ((mx - (3 : Int32)) + (p3 &&& (7 : Int32))), iv (((mx - (3 : Int32)) + (p3 &&& (7 : Int32))).toInt16.toInt32), iv (1 : Int32)] [])
          refine Goes.step ?_ (fun _ k => XS.aload X2.here hx rfl (hb hby at_93) rfl rfl k)
          show Goes p e below _ (sF T2 m 95 #[iv p1, iv p2, iv p3, iv ((p1 &&& (2147483647 : Int32)) % (11 : Int32)), rv a, iv mx, iv ((p2 &&& (2147483647 : Int32)) % (3 : Int32)), iv ((mx - (3 : Int32)) + (p3 &&& (7 : Int32))), iv (((mx - (3 : Int32)) + (p3 &&& (7 : Int32))).toInt16.toInt32), iv (1 : Int32)] [(.ref a)])
          refine Goes.step ?_ (fun _ k => XS.iload X2.here hx rfl (hb hby at_95) rfl  k)
          show Goes p e below _ (sF T2 m 97 #[iv p1, iv p2, iv p3, iv ((p1 &&& (2147483647 : Int32)) % (11 : Int32)), rv a, iv mx, iv ((p2 &&& (2147483647 : Int32)) % (3 : Int32)), iv ((mx - (3 : Int32)) + (p3 &&& (7 : Int32))), iv (((mx - (3 : Int32)) + (p3 &&& (7 : Int32))).toInt16.toInt32), iv (1 : Int32)] [(.int (((mx - (3 : Int32)) + (p3 &&& (7 : Int32))).toInt16.toInt32)), (.ref a)])
          obtain ⟨cq14, kq14, q14a, q14b, q14c⟩ := isOf hZ e2 E_a
          obtain ⟨_, _, ⟨T14, L14, k14, n14⟩, -, X14, ⟨Lc14, hQ14, l14, y14, z14⟩, st14⟩ := X2.virtualBack hx (y := (⟨"com/example/partition/partition/protocol/Api", "answers", "(S)Z"⟩ : MethodName)) (z := (⟨"com/example/partition/partition/protocol/Api", "answers", "(S)Z"⟩ : MethodName)) hown (mvT hZ (hw _ (List.mem_of_getElem? (i := 11) rfl))) (mvT hZ (hw _ (List.mem_of_getElem? (i := 12) rfl))) (notFace_of_selects (args := #[]) (mvT hZ (hw _ (List.mem_of_getElem? (i := 14) rfl)))) (mvT hZ (hw _ (List.mem_of_getElem? (i := 14) rfl))) (mvT hZ (hw _ (List.mem_of_getElem? (i := 13) rfl))) (by decide) (backOf (W := 0) (rm3 l Z a0 hw [] a (((mx - (3 : Int32)) + (p3 &&& (7 : Int32))).toInt16.toInt32) mx (1 : Int32) h0 n0 Z0 Fmin Fmax (by unfold ansV; rw [if_neg hc76_10, if_neg hc83_12])) hZ (hw _ (List.mem_of_getElem? (i := 15) rfl)) (hw _ (List.mem_of_getElem? (i := 6) rfl)) (by decide) (by decide)) q14a q14c (g := (mkF m 97 #[iv p1, iv p2, iv p3, iv ((p1 &&& (2147483647 : Int32)) % (11 : Int32)), rv a, iv mx, iv ((p2 &&& (2147483647 : Int32)) % (3 : Int32)), iv ((mx - (3 : Int32)) + (p3 &&& (7 : Int32))), iv (((mx - (3 : Int32)) + (p3 &&& (7 : Int32))).toInt16.toInt32), iv (1 : Int32)] [(.int (((mx - (3 : Int32)) + (p3 &&& (7 : Int32))).toInt16.toInt32)), (.ref a)])) rfl (by rw [hml]; rfl) (Steps.refl _) (argsL := [(.int (((mx - (3 : Int32)) + (p3 &&& (7 : Int32))).toInt16.toInt32))]) (rest := []) (lenOf pd__28S_29Z rfl) rfl (by show 2 * 0 + _ ≤ _; exact Nat.le_of_eq rfl) (hb hby at_97) (fun _ _ => ⟨rfl, e2, (by decide : 0 + 0 ≤ _), (by decide : 0 + 0 ≤ _)⟩)
          dsimp only [Pt.U, Pt.locs, Pt.cells, Pt.slots] at X14 l14 y14 z14 st14 hQ14
          subst l14 y14 z14
          obtain ⟨rfl, N14q, e14⟩ := hQ14
          have N14 := Fr.app N2 N14q
          refine Goes.step ?_ (fun _ k => st14.trans k)
          show Goes p e below _ (sF T14 m 100 #[iv p1, iv p2, iv p3, iv ((p1 &&& (2147483647 : Int32)) % (11 : Int32)), rv a, iv mx, iv ((p2 &&& (2147483647 : Int32)) % (3 : Int32)), iv ((mx - (3 : Int32)) + (p3 &&& (7 : Int32))), iv (((mx - (3 : Int32)) + (p3 &&& (7 : Int32))).toInt16.toInt32), iv (1 : Int32)] [(.int (1 : Int32))])
          refine Goes.step ?_ (fun _ k => XS.iload X14.here hx rfl (hb hby at_100) rfl  k)
          show Goes p e below _ (sF T14 m 102 #[iv p1, iv p2, iv p3, iv ((p1 &&& (2147483647 : Int32)) % (11 : Int32)), rv a, iv mx, iv ((p2 &&& (2147483647 : Int32)) % (3 : Int32)), iv ((mx - (3 : Int32)) + (p3 &&& (7 : Int32))), iv (((mx - (3 : Int32)) + (p3 &&& (7 : Int32))).toInt16.toInt32), iv (1 : Int32)] [(.int (1 : Int32)), (.int (1 : Int32))])
          refine Goes.step ?_ (fun _ k => XS.icmpNo X14.here hx rfl (hb hby at_102) rfl (teq (by decide : (1 : Int32) = (1 : Int32))).2 k)
          show Goes p e below _ (sF T14 m 105 #[iv p1, iv p2, iv p3, iv ((p1 &&& (2147483647 : Int32)) % (11 : Int32)), rv a, iv mx, iv ((p2 &&& (2147483647 : Int32)) % (3 : Int32)), iv ((mx - (3 : Int32)) + (p3 &&& (7 : Int32))), iv (((mx - (3 : Int32)) + (p3 &&& (7 : Int32))).toInt16.toInt32), iv (1 : Int32)] [])
          refine Goes.step ?_ (fun _ k => XS.iconst X14.here hx rfl (hb hby at_105) k)
          show Goes p e below _ (sF T14 m 106 #[iv p1, iv p2, iv p3, iv ((p1 &&& (2147483647 : Int32)) % (11 : Int32)), rv a, iv mx, iv ((p2 &&& (2147483647 : Int32)) % (3 : Int32)), iv ((mx - (3 : Int32)) + (p3 &&& (7 : Int32))), iv (((mx - (3 : Int32)) + (p3 &&& (7 : Int32))).toInt16.toInt32), iv (1 : Int32)] [(.int (1 : Int32))])
          refine Goes.step ?_ (fun _ k => XS.goto X14.here hx rfl (pc0 := 106) (pc' := 110) rfl (hb hby at_106) (by decide) (by decide) k)
          show Goes p e below _ (sF T14 m 110 #[iv p1, iv p2, iv p3, iv ((p1 &&& (2147483647 : Int32)) % (11 : Int32)), rv a, iv mx, iv ((p2 &&& (2147483647 : Int32)) % (3 : Int32)), iv ((mx - (3 : Int32)) + (p3 &&& (7 : Int32))), iv (((mx - (3 : Int32)) + (p3 &&& (7 : Int32))).toInt16.toInt32), iv (1 : Int32)] [(.int (1 : Int32))])
          refine own_out X14 hx hlk hret rfl (Or.inl ⟨rfl, by simp, _, rfl⟩) (hb hby at_110) ?_ (by decide) (by decide)
          show Q0 Z h0 n0 _ T14.heap _
          rw [e14]
          exact ⟨rfl, N14⟩
    · refine Goes.step ?_ (fun _ k => XS.icmpYes X2.here hx rfl (pc0 := 43) (pc' := 60) rfl (hb hby at_43) rfl (feq hc43_9).2 (by decide) (by decide) k)
      show Goes p e below _ (sF T2 m 60 #[iv p1, iv p2, iv p3, iv ((p1 &&& (2147483647 : Int32)) % (11 : Int32)), rv a, iv mx, iv ((p2 &&& (2147483647 : Int32)) % (3 : Int32)), .unset, .unset, .unset] [])
      refine Goes.step ?_ (fun _ k => XS.bipush X2.here hx rfl (hb hby at_60) k)
      show Goes p e below _ (sF T2 m 62 #[iv p1, iv p2, iv p3, iv ((p1 &&& (2147483647 : Int32)) % (11 : Int32)), rv a, iv mx, iv ((p2 &&& (2147483647 : Int32)) % (3 : Int32)), .unset, .unset, .unset] [(.int (-4 : Int32))])
      refine Goes.step ?_ (fun _ k => XS.iloadN X2.here hx rfl (hb hby at_62) rfl  k)
      show Goes p e below _ (sF T2 m 63 #[iv p1, iv p2, iv p3, iv ((p1 &&& (2147483647 : Int32)) % (11 : Int32)), rv a, iv mx, iv ((p2 &&& (2147483647 : Int32)) % (3 : Int32)), .unset, .unset, .unset] [(.int p3), (.int (-4 : Int32))])
      refine Goes.step ?_ (fun _ k => XS.bipush X2.here hx rfl (hb hby at_63) k)
      show Goes p e below _ (sF T2 m 65 #[iv p1, iv p2, iv p3, iv ((p1 &&& (2147483647 : Int32)) % (11 : Int32)), rv a, iv mx, iv ((p2 &&& (2147483647 : Int32)) % (3 : Int32)), .unset, .unset, .unset] [(.int (7 : Int32)), (.int p3), (.int (-4 : Int32))])
      refine Goes.step ?_ (fun _ k => XS.iand X2.here hx rfl (hb hby at_65) rfl k)
      show Goes p e below _ (sF T2 m 66 #[iv p1, iv p2, iv p3, iv ((p1 &&& (2147483647 : Int32)) % (11 : Int32)), rv a, iv mx, iv ((p2 &&& (2147483647 : Int32)) % (3 : Int32)), .unset, .unset, .unset] [(.int (p3 &&& (7 : Int32))), (.int (-4 : Int32))])
      refine Goes.step ?_ (fun _ k => XS.iadd X2.here hx rfl (hb hby at_66) rfl k)
      show Goes p e below _ (sF T2 m 67 #[iv p1, iv p2, iv p3, iv ((p1 &&& (2147483647 : Int32)) % (11 : Int32)), rv a, iv mx, iv ((p2 &&& (2147483647 : Int32)) % (3 : Int32)), .unset, .unset, .unset] [(.int ((-4 : Int32) + (p3 &&& (7 : Int32))))])
      refine Goes.step ?_ (fun _ k => XS.istore X2.here hx rfl (hb hby at_67) rfl (l' := #[iv p1, iv p2, iv p3, iv ((p1 &&& (2147483647 : Int32)) % (11 : Int32)), rv a, iv mx, iv ((p2 &&& (2147483647 : Int32)) % (3 : Int32)), iv ((-4 : Int32) + (p3 &&& (7 : Int32))), .unset, .unset]) rfl k)
      show Goes p e below _ (sF T2 m 69 #[iv p1, iv p2, iv p3, iv ((p1 &&& (2147483647 : Int32)) % (11 : Int32)), rv a, iv mx, iv ((p2 &&& (2147483647 : Int32)) % (3 : Int32)), iv ((-4 : Int32) + (p3 &&& (7 : Int32))), .unset, .unset] [])
      refine Goes.step ?_ (fun _ k => XS.iload X2.here hx rfl (hb hby at_69) rfl  k)
      show Goes p e below _ (sF T2 m 71 #[iv p1, iv p2, iv p3, iv ((p1 &&& (2147483647 : Int32)) % (11 : Int32)), rv a, iv mx, iv ((p2 &&& (2147483647 : Int32)) % (3 : Int32)), iv ((-4 : Int32) + (p3 &&& (7 : Int32))), .unset, .unset] [(.int ((-4 : Int32) + (p3 &&& (7 : Int32))))])
      refine Goes.step ?_ (fun _ k => XS.i2s X2.here hx rfl (hb hby at_71) rfl k)
      show Goes p e below _ (sF T2 m 72 #[iv p1, iv p2, iv p3, iv ((p1 &&& (2147483647 : Int32)) % (11 : Int32)), rv a, iv mx, iv ((p2 &&& (2147483647 : Int32)) % (3 : Int32)), iv ((-4 : Int32) + (p3 &&& (7 : Int32))), .unset, .unset] [(.int (((-4 : Int32) + (p3 &&& (7 : Int32))).toInt16.toInt32))])
      refine Goes.step ?_ (fun _ k => XS.istore X2.here hx rfl (hb hby at_72) rfl (l' := #[iv p1, iv p2, iv p3, iv ((p1 &&& (2147483647 : Int32)) % (11 : Int32)), rv a, iv mx, iv ((p2 &&& (2147483647 : Int32)) % (3 : Int32)), iv ((-4 : Int32) + (p3 &&& (7 : Int32))), iv (((-4 : Int32) + (p3 &&& (7 : Int32))).toInt16.toInt32), .unset]) rfl k)
      show Goes p e below _ (sF T2 m 74 #[iv p1, iv p2, iv p3, iv ((p1 &&& (2147483647 : Int32)) % (11 : Int32)), rv a, iv mx, iv ((p2 &&& (2147483647 : Int32)) % (3 : Int32)), iv ((-4 : Int32) + (p3 &&& (7 : Int32))), iv (((-4 : Int32) + (p3 &&& (7 : Int32))).toInt16.toInt32), .unset] [])
      refine Goes.step ?_ (fun _ k => XS.iload X2.here hx rfl (hb hby at_74) rfl  k)
      show Goes p e below _ (sF T2 m 76 #[iv p1, iv p2, iv p3, iv ((p1 &&& (2147483647 : Int32)) % (11 : Int32)), rv a, iv mx, iv ((p2 &&& (2147483647 : Int32)) % (3 : Int32)), iv ((-4 : Int32) + (p3 &&& (7 : Int32))), iv (((-4 : Int32) + (p3 &&& (7 : Int32))).toInt16.toInt32), .unset] [(.int (((-4 : Int32) + (p3 &&& (7 : Int32))).toInt16.toInt32))])
      by_cases hc76_15 : (((-4 : Int32) + (p3 &&& (7 : Int32))).toInt16.toInt32) < (0 : Int32)
      · refine Goes.step ?_ (fun _ k => XS.ifYes X2.here hx rfl (pc0 := 76) (pc' := 90) rfl (hb hby at_76) rfl ((if0 _ _).trans (tlt hc76_15).1) (by decide) (by decide) k)
        show Goes p e below _ (sF T2 m 90 #[iv p1, iv p2, iv p3, iv ((p1 &&& (2147483647 : Int32)) % (11 : Int32)), rv a, iv mx, iv ((p2 &&& (2147483647 : Int32)) % (3 : Int32)), iv ((-4 : Int32) + (p3 &&& (7 : Int32))), iv (((-4 : Int32) + (p3 &&& (7 : Int32))).toInt16.toInt32), .unset] [])
        refine Goes.step ?_ (fun _ k => XS.iconst X2.here hx rfl (hb hby at_90) k)
        show Goes p e below _ (sF T2 m 91 #[iv p1, iv p2, iv p3, iv ((p1 &&& (2147483647 : Int32)) % (11 : Int32)), rv a, iv mx, iv ((p2 &&& (2147483647 : Int32)) % (3 : Int32)), iv ((-4 : Int32) + (p3 &&& (7 : Int32))), iv (((-4 : Int32) + (p3 &&& (7 : Int32))).toInt16.toInt32), .unset] [(.int (0 : Int32))])
        refine Goes.step ?_ (fun _ k => XS.istore X2.here hx rfl (hb hby at_91) rfl (l' := #[iv p1, iv p2, iv p3, iv ((p1 &&& (2147483647 : Int32)) % (11 : Int32)), rv a, iv mx, iv ((p2 &&& (2147483647 : Int32)) % (3 : Int32)), iv ((-4 : Int32) + (p3 &&& (7 : Int32))), iv (((-4 : Int32) + (p3 &&& (7 : Int32))).toInt16.toInt32), iv (0 : Int32)]) rfl k)
        show Goes p e below _ (sF T2 m 93 #[iv p1, iv p2, iv p3, iv ((p1 &&& (2147483647 : Int32)) % (11 : Int32)), rv a, iv mx, iv ((p2 &&& (2147483647 : Int32)) % (3 : Int32)), iv ((-4 : Int32) + (p3 &&& (7 : Int32))), iv (((-4 : Int32) + (p3 &&& (7 : Int32))).toInt16.toInt32), iv (0 : Int32)] [])
        refine Goes.step ?_ (fun _ k => XS.aload X2.here hx rfl (hb hby at_93) rfl rfl k)
        show Goes p e below _ (sF T2 m 95 #[iv p1, iv p2, iv p3, iv ((p1 &&& (2147483647 : Int32)) % (11 : Int32)), rv a, iv mx, iv ((p2 &&& (2147483647 : Int32)) % (3 : Int32)), iv ((-4 : Int32) + (p3 &&& (7 : Int32))), iv (((-4 : Int32) + (p3 &&& (7 : Int32))).toInt16.toInt32), iv (0 : Int32)] [(.ref a)])
        refine Goes.step ?_ (fun _ k => XS.iload X2.here hx rfl (hb hby at_95) rfl  k)
        show Goes p e below _ (sF T2 m 97 #[iv p1, iv p2, iv p3, iv ((p1 &&& (2147483647 : Int32)) % (11 : Int32)), rv a, iv mx, iv ((p2 &&& (2147483647 : Int32)) % (3 : Int32)), iv ((-4 : Int32) + (p3 &&& (7 : Int32))), iv (((-4 : Int32) + (p3 &&& (7 : Int32))).toInt16.toInt32), iv (0 : Int32)] [(.int (((-4 : Int32) + (p3 &&& (7 : Int32))).toInt16.toInt32)), (.ref a)])
        obtain ⟨cq16, kq16, q16a, q16b, q16c⟩ := isOf hZ e2 E_a
        obtain ⟨_, _, ⟨T16, L16, k16, n16⟩, -, X16, ⟨Lc16, hQ16, l16, y16, z16⟩, st16⟩ := X2.virtualBack hx (y := (⟨"com/example/partition/partition/protocol/Api", "answers", "(S)Z"⟩ : MethodName)) (z := (⟨"com/example/partition/partition/protocol/Api", "answers", "(S)Z"⟩ : MethodName)) hown (mvT hZ (hw _ (List.mem_of_getElem? (i := 11) rfl))) (mvT hZ (hw _ (List.mem_of_getElem? (i := 12) rfl))) (notFace_of_selects (args := #[]) (mvT hZ (hw _ (List.mem_of_getElem? (i := 14) rfl)))) (mvT hZ (hw _ (List.mem_of_getElem? (i := 14) rfl))) (mvT hZ (hw _ (List.mem_of_getElem? (i := 13) rfl))) (by decide) (backOf (W := 0) (rm3 l Z a0 hw [] a (((-4 : Int32) + (p3 &&& (7 : Int32))).toInt16.toInt32) mx (0 : Int32) h0 n0 Z0 Fmin Fmax (by unfold ansV; rw [if_pos hc76_15])) hZ (hw _ (List.mem_of_getElem? (i := 15) rfl)) (hw _ (List.mem_of_getElem? (i := 6) rfl)) (by decide) (by decide)) q16a q16c (g := (mkF m 97 #[iv p1, iv p2, iv p3, iv ((p1 &&& (2147483647 : Int32)) % (11 : Int32)), rv a, iv mx, iv ((p2 &&& (2147483647 : Int32)) % (3 : Int32)), iv ((-4 : Int32) + (p3 &&& (7 : Int32))), iv (((-4 : Int32) + (p3 &&& (7 : Int32))).toInt16.toInt32), iv (0 : Int32)] [(.int (((-4 : Int32) + (p3 &&& (7 : Int32))).toInt16.toInt32)), (.ref a)])) rfl (by rw [hml]; rfl) (Steps.refl _) (argsL := [(.int (((-4 : Int32) + (p3 &&& (7 : Int32))).toInt16.toInt32))]) (rest := []) (lenOf pd__28S_29Z rfl) rfl (by show 2 * 0 + _ ≤ _; exact Nat.le_of_eq rfl) (hb hby at_97) (fun _ _ => ⟨rfl, e2, (by decide : 0 + 0 ≤ _), (by decide : 0 + 0 ≤ _)⟩)
        dsimp only [Pt.U, Pt.locs, Pt.cells, Pt.slots] at X16 l16 y16 z16 st16 hQ16
        subst l16 y16 z16
        obtain ⟨rfl, N16q, e16⟩ := hQ16
        have N16 := Fr.app N2 N16q
        refine Goes.step ?_ (fun _ k => st16.trans k)
        show Goes p e below _ (sF T16 m 100 #[iv p1, iv p2, iv p3, iv ((p1 &&& (2147483647 : Int32)) % (11 : Int32)), rv a, iv mx, iv ((p2 &&& (2147483647 : Int32)) % (3 : Int32)), iv ((-4 : Int32) + (p3 &&& (7 : Int32))), iv (((-4 : Int32) + (p3 &&& (7 : Int32))).toInt16.toInt32), iv (0 : Int32)] [(.int (0 : Int32))])
        refine Goes.step ?_ (fun _ k => XS.iload X16.here hx rfl (hb hby at_100) rfl  k)
        show Goes p e below _ (sF T16 m 102 #[iv p1, iv p2, iv p3, iv ((p1 &&& (2147483647 : Int32)) % (11 : Int32)), rv a, iv mx, iv ((p2 &&& (2147483647 : Int32)) % (3 : Int32)), iv ((-4 : Int32) + (p3 &&& (7 : Int32))), iv (((-4 : Int32) + (p3 &&& (7 : Int32))).toInt16.toInt32), iv (0 : Int32)] [(.int (0 : Int32)), (.int (0 : Int32))])
        refine Goes.step ?_ (fun _ k => XS.icmpNo X16.here hx rfl (hb hby at_102) rfl (teq (by decide : (0 : Int32) = (0 : Int32))).2 k)
        show Goes p e below _ (sF T16 m 105 #[iv p1, iv p2, iv p3, iv ((p1 &&& (2147483647 : Int32)) % (11 : Int32)), rv a, iv mx, iv ((p2 &&& (2147483647 : Int32)) % (3 : Int32)), iv ((-4 : Int32) + (p3 &&& (7 : Int32))), iv (((-4 : Int32) + (p3 &&& (7 : Int32))).toInt16.toInt32), iv (0 : Int32)] [])
        refine Goes.step ?_ (fun _ k => XS.iconst X16.here hx rfl (hb hby at_105) k)
        show Goes p e below _ (sF T16 m 106 #[iv p1, iv p2, iv p3, iv ((p1 &&& (2147483647 : Int32)) % (11 : Int32)), rv a, iv mx, iv ((p2 &&& (2147483647 : Int32)) % (3 : Int32)), iv ((-4 : Int32) + (p3 &&& (7 : Int32))), iv (((-4 : Int32) + (p3 &&& (7 : Int32))).toInt16.toInt32), iv (0 : Int32)] [(.int (1 : Int32))])
        refine Goes.step ?_ (fun _ k => XS.goto X16.here hx rfl (pc0 := 106) (pc' := 110) rfl (hb hby at_106) (by decide) (by decide) k)
        show Goes p e below _ (sF T16 m 110 #[iv p1, iv p2, iv p3, iv ((p1 &&& (2147483647 : Int32)) % (11 : Int32)), rv a, iv mx, iv ((p2 &&& (2147483647 : Int32)) % (3 : Int32)), iv ((-4 : Int32) + (p3 &&& (7 : Int32))), iv (((-4 : Int32) + (p3 &&& (7 : Int32))).toInt16.toInt32), iv (0 : Int32)] [(.int (1 : Int32))])
        refine own_out X16 hx hlk hret rfl (Or.inl ⟨rfl, by simp, _, rfl⟩) (hb hby at_110) ?_ (by decide) (by decide)
        show Q0 Z h0 n0 _ T16.heap _
        rw [e16]
        exact ⟨rfl, N16⟩
      · refine Goes.step ?_ (fun _ k => XS.ifNo X2.here hx rfl (hb hby at_76) rfl ((if0 _ _).trans (flt hc76_15).1) k)
        show Goes p e below _ (sF T2 m 79 #[iv p1, iv p2, iv p3, iv ((p1 &&& (2147483647 : Int32)) % (11 : Int32)), rv a, iv mx, iv ((p2 &&& (2147483647 : Int32)) % (3 : Int32)), iv ((-4 : Int32) + (p3 &&& (7 : Int32))), iv (((-4 : Int32) + (p3 &&& (7 : Int32))).toInt16.toInt32), .unset] [])
        refine Goes.step ?_ (fun _ k => XS.iload X2.here hx rfl (hb hby at_79) rfl  k)
        show Goes p e below _ (sF T2 m 81 #[iv p1, iv p2, iv p3, iv ((p1 &&& (2147483647 : Int32)) % (11 : Int32)), rv a, iv mx, iv ((p2 &&& (2147483647 : Int32)) % (3 : Int32)), iv ((-4 : Int32) + (p3 &&& (7 : Int32))), iv (((-4 : Int32) + (p3 &&& (7 : Int32))).toInt16.toInt32), .unset] [(.int (((-4 : Int32) + (p3 &&& (7 : Int32))).toInt16.toInt32))])
        refine Goes.step ?_ (fun _ k => XS.iload X2.here hx rfl (hb hby at_81) rfl  k)
        show Goes p e below _ (sF T2 m 83 #[iv p1, iv p2, iv p3, iv ((p1 &&& (2147483647 : Int32)) % (11 : Int32)), rv a, iv mx, iv ((p2 &&& (2147483647 : Int32)) % (3 : Int32)), iv ((-4 : Int32) + (p3 &&& (7 : Int32))), iv (((-4 : Int32) + (p3 &&& (7 : Int32))).toInt16.toInt32), .unset] [(.int mx), (.int (((-4 : Int32) + (p3 &&& (7 : Int32))).toInt16.toInt32))])
        by_cases hc83_17 : mx < (((-4 : Int32) + (p3 &&& (7 : Int32))).toInt16.toInt32)
        · refine Goes.step ?_ (fun _ k => XS.icmpYes X2.here hx rfl (pc0 := 83) (pc' := 90) rfl (hb hby at_83) rfl (tlt hc83_17).2.2.1 (by decide) (by decide) k)
          show Goes p e below _ (sF T2 m 90 #[iv p1, iv p2, iv p3, iv ((p1 &&& (2147483647 : Int32)) % (11 : Int32)), rv a, iv mx, iv ((p2 &&& (2147483647 : Int32)) % (3 : Int32)), iv ((-4 : Int32) + (p3 &&& (7 : Int32))), iv (((-4 : Int32) + (p3 &&& (7 : Int32))).toInt16.toInt32), .unset] [])
          refine Goes.step ?_ (fun _ k => XS.iconst X2.here hx rfl (hb hby at_90) k)
          show Goes p e below _ (sF T2 m 91 #[iv p1, iv p2, iv p3, iv ((p1 &&& (2147483647 : Int32)) % (11 : Int32)), rv a, iv mx, iv ((p2 &&& (2147483647 : Int32)) % (3 : Int32)), iv ((-4 : Int32) + (p3 &&& (7 : Int32))), iv (((-4 : Int32) + (p3 &&& (7 : Int32))).toInt16.toInt32), .unset] [(.int (0 : Int32))])
          refine Goes.step ?_ (fun _ k => XS.istore X2.here hx rfl (hb hby at_91) rfl (l' := #[iv p1, iv p2, iv p3, iv ((p1 &&& (2147483647 : Int32)) % (11 : Int32)), rv a, iv mx, iv ((p2 &&& (2147483647 : Int32)) % (3 : Int32)), iv ((-4 : Int32) + (p3 &&& (7 : Int32))), iv (((-4 : Int32) + (p3 &&& (7 : Int32))).toInt16.toInt32), iv (0 : Int32)]) rfl k)
          show Goes p e below _ (sF T2 m 93 #[iv p1, iv p2, iv p3, iv ((p1 &&& (2147483647 : Int32)) % (11 : Int32)), rv a, iv mx, iv ((p2 &&& (2147483647 : Int32)) % (3 : Int32)), iv ((-4 : Int32) + (p3 &&& (7 : Int32))), iv (((-4 : Int32) + (p3 &&& (7 : Int32))).toInt16.toInt32), iv (0 : Int32)] [])
          refine Goes.step ?_ (fun _ k => XS.aload X2.here hx rfl (hb hby at_93) rfl rfl k)
          show Goes p e below _ (sF T2 m 95 #[iv p1, iv p2, iv p3, iv ((p1 &&& (2147483647 : Int32)) % (11 : Int32)), rv a, iv mx, iv ((p2 &&& (2147483647 : Int32)) % (3 : Int32)), iv ((-4 : Int32) + (p3 &&& (7 : Int32))), iv (((-4 : Int32) + (p3 &&& (7 : Int32))).toInt16.toInt32), iv (0 : Int32)] [(.ref a)])
          refine Goes.step ?_ (fun _ k => XS.iload X2.here hx rfl (hb hby at_95) rfl  k)
          show Goes p e below _ (sF T2 m 97 #[iv p1, iv p2, iv p3, iv ((p1 &&& (2147483647 : Int32)) % (11 : Int32)), rv a, iv mx, iv ((p2 &&& (2147483647 : Int32)) % (3 : Int32)), iv ((-4 : Int32) + (p3 &&& (7 : Int32))), iv (((-4 : Int32) + (p3 &&& (7 : Int32))).toInt16.toInt32), iv (0 : Int32)] [(.int (((-4 : Int32) + (p3 &&& (7 : Int32))).toInt16.toInt32)), (.ref a)])
          obtain ⟨cq18, kq18, q18a, q18b, q18c⟩ := isOf hZ e2 E_a
          obtain ⟨_, _, ⟨T18, L18, k18, n18⟩, -, X18, ⟨Lc18, hQ18, l18, y18, z18⟩, st18⟩ := X2.virtualBack hx (y := (⟨"com/example/partition/partition/protocol/Api", "answers", "(S)Z"⟩ : MethodName)) (z := (⟨"com/example/partition/partition/protocol/Api", "answers", "(S)Z"⟩ : MethodName)) hown (mvT hZ (hw _ (List.mem_of_getElem? (i := 11) rfl))) (mvT hZ (hw _ (List.mem_of_getElem? (i := 12) rfl))) (notFace_of_selects (args := #[]) (mvT hZ (hw _ (List.mem_of_getElem? (i := 14) rfl)))) (mvT hZ (hw _ (List.mem_of_getElem? (i := 14) rfl))) (mvT hZ (hw _ (List.mem_of_getElem? (i := 13) rfl))) (by decide) (backOf (W := 0) (rm3 l Z a0 hw [] a (((-4 : Int32) + (p3 &&& (7 : Int32))).toInt16.toInt32) mx (0 : Int32) h0 n0 Z0 Fmin Fmax (by unfold ansV; rw [if_neg hc76_15, if_pos hc83_17])) hZ (hw _ (List.mem_of_getElem? (i := 15) rfl)) (hw _ (List.mem_of_getElem? (i := 6) rfl)) (by decide) (by decide)) q18a q18c (g := (mkF m 97 #[iv p1, iv p2, iv p3, iv ((p1 &&& (2147483647 : Int32)) % (11 : Int32)), rv a, iv mx, iv ((p2 &&& (2147483647 : Int32)) % (3 : Int32)), iv ((-4 : Int32) + (p3 &&& (7 : Int32))), iv (((-4 : Int32) + (p3 &&& (7 : Int32))).toInt16.toInt32), iv (0 : Int32)] [(.int (((-4 : Int32) + (p3 &&& (7 : Int32))).toInt16.toInt32)), (.ref a)])) rfl (by rw [hml]; rfl) (Steps.refl _) (argsL := [(.int (((-4 : Int32) + (p3 &&& (7 : Int32))).toInt16.toInt32))]) (rest := []) (lenOf pd__28S_29Z rfl) rfl (by show 2 * 0 + _ ≤ _; exact Nat.le_of_eq rfl) (hb hby at_97) (fun _ _ => ⟨rfl, e2, (by decide : 0 + 0 ≤ _), (by decide : 0 + 0 ≤ _)⟩)
          dsimp only [Pt.U, Pt.locs, Pt.cells, Pt.slots] at X18 l18 y18 z18 st18 hQ18
          subst l18 y18 z18
          obtain ⟨rfl, N18q, e18⟩ := hQ18
          have N18 := Fr.app N2 N18q
          refine Goes.step ?_ (fun _ k => st18.trans k)
          show Goes p e below _ (sF T18 m 100 #[iv p1, iv p2, iv p3, iv ((p1 &&& (2147483647 : Int32)) % (11 : Int32)), rv a, iv mx, iv ((p2 &&& (2147483647 : Int32)) % (3 : Int32)), iv ((-4 : Int32) + (p3 &&& (7 : Int32))), iv (((-4 : Int32) + (p3 &&& (7 : Int32))).toInt16.toInt32), iv (0 : Int32)] [(.int (0 : Int32))])
          refine Goes.step ?_ (fun _ k => XS.iload X18.here hx rfl (hb hby at_100) rfl  k)
          show Goes p e below _ (sF T18 m 102 #[iv p1, iv p2, iv p3, iv ((p1 &&& (2147483647 : Int32)) % (11 : Int32)), rv a, iv mx, iv ((p2 &&& (2147483647 : Int32)) % (3 : Int32)), iv ((-4 : Int32) + (p3 &&& (7 : Int32))), iv (((-4 : Int32) + (p3 &&& (7 : Int32))).toInt16.toInt32), iv (0 : Int32)] [(.int (0 : Int32)), (.int (0 : Int32))])
          refine Goes.step ?_ (fun _ k => XS.icmpNo X18.here hx rfl (hb hby at_102) rfl (teq (by decide : (0 : Int32) = (0 : Int32))).2 k)
          show Goes p e below _ (sF T18 m 105 #[iv p1, iv p2, iv p3, iv ((p1 &&& (2147483647 : Int32)) % (11 : Int32)), rv a, iv mx, iv ((p2 &&& (2147483647 : Int32)) % (3 : Int32)), iv ((-4 : Int32) + (p3 &&& (7 : Int32))), iv (((-4 : Int32) + (p3 &&& (7 : Int32))).toInt16.toInt32), iv (0 : Int32)] [])
          refine Goes.step ?_ (fun _ k => XS.iconst X18.here hx rfl (hb hby at_105) k)
          show Goes p e below _ (sF T18 m 106 #[iv p1, iv p2, iv p3, iv ((p1 &&& (2147483647 : Int32)) % (11 : Int32)), rv a, iv mx, iv ((p2 &&& (2147483647 : Int32)) % (3 : Int32)), iv ((-4 : Int32) + (p3 &&& (7 : Int32))), iv (((-4 : Int32) + (p3 &&& (7 : Int32))).toInt16.toInt32), iv (0 : Int32)] [(.int (1 : Int32))])
          refine Goes.step ?_ (fun _ k => XS.goto X18.here hx rfl (pc0 := 106) (pc' := 110) rfl (hb hby at_106) (by decide) (by decide) k)
          show Goes p e below _ (sF T18 m 110 #[iv p1, iv p2, iv p3, iv ((p1 &&& (2147483647 : Int32)) % (11 : Int32)), rv a, iv mx, iv ((p2 &&& (2147483647 : Int32)) % (3 : Int32)), iv ((-4 : Int32) + (p3 &&& (7 : Int32))), iv (((-4 : Int32) + (p3 &&& (7 : Int32))).toInt16.toInt32), iv (0 : Int32)] [(.int (1 : Int32))])
          refine own_out X18 hx hlk hret rfl (Or.inl ⟨rfl, by simp, _, rfl⟩) (hb hby at_110) ?_ (by decide) (by decide)
          show Q0 Z h0 n0 _ T18.heap _
          rw [e18]
          exact ⟨rfl, N18⟩
        · refine Goes.step ?_ (fun _ k => XS.icmpNo X2.here hx rfl (hb hby at_83) rfl (flt hc83_17).2.2.1 k)
          show Goes p e below _ (sF T2 m 86 #[iv p1, iv p2, iv p3, iv ((p1 &&& (2147483647 : Int32)) % (11 : Int32)), rv a, iv mx, iv ((p2 &&& (2147483647 : Int32)) % (3 : Int32)), iv ((-4 : Int32) + (p3 &&& (7 : Int32))), iv (((-4 : Int32) + (p3 &&& (7 : Int32))).toInt16.toInt32), .unset] [])
          refine Goes.step ?_ (fun _ k => XS.iconst X2.here hx rfl (hb hby at_86) k)
          show Goes p e below _ (sF T2 m 87 #[iv p1, iv p2, iv p3, iv ((p1 &&& (2147483647 : Int32)) % (11 : Int32)), rv a, iv mx, iv ((p2 &&& (2147483647 : Int32)) % (3 : Int32)), iv ((-4 : Int32) + (p3 &&& (7 : Int32))), iv (((-4 : Int32) + (p3 &&& (7 : Int32))).toInt16.toInt32), .unset] [(.int (1 : Int32))])
          refine Goes.step ?_ (fun _ k => XS.goto X2.here hx rfl (pc0 := 87) (pc' := 91) rfl (hb hby at_87) (by decide) (by decide) k)
          show Goes p e below _ (sF T2 m 91 #[iv p1, iv p2, iv p3, iv ((p1 &&& (2147483647 : Int32)) % (11 : Int32)), rv a, iv mx, iv ((p2 &&& (2147483647 : Int32)) % (3 : Int32)), iv ((-4 : Int32) + (p3 &&& (7 : Int32))), iv (((-4 : Int32) + (p3 &&& (7 : Int32))).toInt16.toInt32), .unset] [(.int (1 : Int32))])
          refine Goes.step ?_ (fun _ k => XS.istore X2.here hx rfl (hb hby at_91) rfl (l' := #[iv p1, iv p2, iv p3, iv ((p1 &&& (2147483647 : Int32)) % (11 : Int32)), rv a, iv mx, iv ((p2 &&& (2147483647 : Int32)) % (3 : Int32)), iv ((-4 : Int32) + (p3 &&& (7 : Int32))), iv (((-4 : Int32) + (p3 &&& (7 : Int32))).toInt16.toInt32), iv (1 : Int32)]) rfl k)
          show Goes p e below _ (sF T2 m 93 #[iv p1, iv p2, iv p3, iv ((p1 &&& (2147483647 : Int32)) % (11 : Int32)), rv a, iv mx, iv ((p2 &&& (2147483647 : Int32)) % (3 : Int32)), iv ((-4 : Int32) + (p3 &&& (7 : Int32))), iv (((-4 : Int32) + (p3 &&& (7 : Int32))).toInt16.toInt32), iv (1 : Int32)] [])
          refine Goes.step ?_ (fun _ k => XS.aload X2.here hx rfl (hb hby at_93) rfl rfl k)
          show Goes p e below _ (sF T2 m 95 #[iv p1, iv p2, iv p3, iv ((p1 &&& (2147483647 : Int32)) % (11 : Int32)), rv a, iv mx, iv ((p2 &&& (2147483647 : Int32)) % (3 : Int32)), iv ((-4 : Int32) + (p3 &&& (7 : Int32))), iv (((-4 : Int32) + (p3 &&& (7 : Int32))).toInt16.toInt32), iv (1 : Int32)] [(.ref a)])
          refine Goes.step ?_ (fun _ k => XS.iload X2.here hx rfl (hb hby at_95) rfl  k)
          show Goes p e below _ (sF T2 m 97 #[iv p1, iv p2, iv p3, iv ((p1 &&& (2147483647 : Int32)) % (11 : Int32)), rv a, iv mx, iv ((p2 &&& (2147483647 : Int32)) % (3 : Int32)), iv ((-4 : Int32) + (p3 &&& (7 : Int32))), iv (((-4 : Int32) + (p3 &&& (7 : Int32))).toInt16.toInt32), iv (1 : Int32)] [(.int (((-4 : Int32) + (p3 &&& (7 : Int32))).toInt16.toInt32)), (.ref a)])
          obtain ⟨cq19, kq19, q19a, q19b, q19c⟩ := isOf hZ e2 E_a
          obtain ⟨_, _, ⟨T19, L19, k19, n19⟩, -, X19, ⟨Lc19, hQ19, l19, y19, z19⟩, st19⟩ := X2.virtualBack hx (y := (⟨"com/example/partition/partition/protocol/Api", "answers", "(S)Z"⟩ : MethodName)) (z := (⟨"com/example/partition/partition/protocol/Api", "answers", "(S)Z"⟩ : MethodName)) hown (mvT hZ (hw _ (List.mem_of_getElem? (i := 11) rfl))) (mvT hZ (hw _ (List.mem_of_getElem? (i := 12) rfl))) (notFace_of_selects (args := #[]) (mvT hZ (hw _ (List.mem_of_getElem? (i := 14) rfl)))) (mvT hZ (hw _ (List.mem_of_getElem? (i := 14) rfl))) (mvT hZ (hw _ (List.mem_of_getElem? (i := 13) rfl))) (by decide) (backOf (W := 0) (rm3 l Z a0 hw [] a (((-4 : Int32) + (p3 &&& (7 : Int32))).toInt16.toInt32) mx (1 : Int32) h0 n0 Z0 Fmin Fmax (by unfold ansV; rw [if_neg hc76_15, if_neg hc83_17])) hZ (hw _ (List.mem_of_getElem? (i := 15) rfl)) (hw _ (List.mem_of_getElem? (i := 6) rfl)) (by decide) (by decide)) q19a q19c (g := (mkF m 97 #[iv p1, iv p2, iv p3, iv ((p1 &&& (2147483647 : Int32)) % (11 : Int32)), rv a, iv mx, iv ((p2 &&& (2147483647 : Int32)) % (3 : Int32)), iv ((-4 : Int32) + (p3 &&& (7 : Int32))), iv (((-4 : Int32) + (p3 &&& (7 : Int32))).toInt16.toInt32), iv (1 : Int32)] [(.int (((-4 : Int32) + (p3 &&& (7 : Int32))).toInt16.toInt32)), (.ref a)])) rfl (by rw [hml]; rfl) (Steps.refl _) (argsL := [(.int (((-4 : Int32) + (p3 &&& (7 : Int32))).toInt16.toInt32))]) (rest := []) (lenOf pd__28S_29Z rfl) rfl (by show 2 * 0 + _ ≤ _; exact Nat.le_of_eq rfl) (hb hby at_97) (fun _ _ => ⟨rfl, e2, (by decide : 0 + 0 ≤ _), (by decide : 0 + 0 ≤ _)⟩)
          dsimp only [Pt.U, Pt.locs, Pt.cells, Pt.slots] at X19 l19 y19 z19 st19 hQ19
          subst l19 y19 z19
          obtain ⟨rfl, N19q, e19⟩ := hQ19
          have N19 := Fr.app N2 N19q
          refine Goes.step ?_ (fun _ k => st19.trans k)
          show Goes p e below _ (sF T19 m 100 #[iv p1, iv p2, iv p3, iv ((p1 &&& (2147483647 : Int32)) % (11 : Int32)), rv a, iv mx, iv ((p2 &&& (2147483647 : Int32)) % (3 : Int32)), iv ((-4 : Int32) + (p3 &&& (7 : Int32))), iv (((-4 : Int32) + (p3 &&& (7 : Int32))).toInt16.toInt32), iv (1 : Int32)] [(.int (1 : Int32))])
          refine Goes.step ?_ (fun _ k => XS.iload X19.here hx rfl (hb hby at_100) rfl  k)
          show Goes p e below _ (sF T19 m 102 #[iv p1, iv p2, iv p3, iv ((p1 &&& (2147483647 : Int32)) % (11 : Int32)), rv a, iv mx, iv ((p2 &&& (2147483647 : Int32)) % (3 : Int32)), iv ((-4 : Int32) + (p3 &&& (7 : Int32))), iv (((-4 : Int32) + (p3 &&& (7 : Int32))).toInt16.toInt32), iv (1 : Int32)] [(.int (1 : Int32)), (.int (1 : Int32))])
          refine Goes.step ?_ (fun _ k => XS.icmpNo X19.here hx rfl (hb hby at_102) rfl (teq (by decide : (1 : Int32) = (1 : Int32))).2 k)
          show Goes p e below _ (sF T19 m 105 #[iv p1, iv p2, iv p3, iv ((p1 &&& (2147483647 : Int32)) % (11 : Int32)), rv a, iv mx, iv ((p2 &&& (2147483647 : Int32)) % (3 : Int32)), iv ((-4 : Int32) + (p3 &&& (7 : Int32))), iv (((-4 : Int32) + (p3 &&& (7 : Int32))).toInt16.toInt32), iv (1 : Int32)] [])
          refine Goes.step ?_ (fun _ k => XS.iconst X19.here hx rfl (hb hby at_105) k)
          show Goes p e below _ (sF T19 m 106 #[iv p1, iv p2, iv p3, iv ((p1 &&& (2147483647 : Int32)) % (11 : Int32)), rv a, iv mx, iv ((p2 &&& (2147483647 : Int32)) % (3 : Int32)), iv ((-4 : Int32) + (p3 &&& (7 : Int32))), iv (((-4 : Int32) + (p3 &&& (7 : Int32))).toInt16.toInt32), iv (1 : Int32)] [(.int (1 : Int32))])
          refine Goes.step ?_ (fun _ k => XS.goto X19.here hx rfl (pc0 := 106) (pc' := 110) rfl (hb hby at_106) (by decide) (by decide) k)
          show Goes p e below _ (sF T19 m 110 #[iv p1, iv p2, iv p3, iv ((p1 &&& (2147483647 : Int32)) % (11 : Int32)), rv a, iv mx, iv ((p2 &&& (2147483647 : Int32)) % (3 : Int32)), iv ((-4 : Int32) + (p3 &&& (7 : Int32))), iv (((-4 : Int32) + (p3 &&& (7 : Int32))).toInt16.toInt32), iv (1 : Int32)] [(.int (1 : Int32))])
          refine own_out X19 hx hlk hret rfl (Or.inl ⟨rfl, by simp, _, rfl⟩) (hb hby at_110) ?_ (by decide) (by decide)
          show Q0 Z h0 n0 _ T19.heap _
          rw [e19]
          exact ⟨rfl, N19⟩
theorem own_mod11 (x : Int32) : (x &&& (2147483647 : Int32)) % (11 : Int32) = 0 ∨ (x &&& (2147483647 : Int32)) % (11 : Int32) = 1 ∨ (x &&& (2147483647 : Int32)) % (11 : Int32) = 2 ∨ (x &&& (2147483647 : Int32)) % (11 : Int32) = 3 ∨ (x &&& (2147483647 : Int32)) % (11 : Int32) = 4 ∨ (x &&& (2147483647 : Int32)) % (11 : Int32) = 5 ∨ (x &&& (2147483647 : Int32)) % (11 : Int32) = 6 ∨ (x &&& (2147483647 : Int32)) % (11 : Int32) = 7 ∨ (x &&& (2147483647 : Int32)) % (11 : Int32) = 8 ∨ (x &&& (2147483647 : Int32)) % (11 : Int32) = 9 ∨ (x &&& (2147483647 : Int32)) % (11 : Int32) = 10 := by
  have h1 := c_mask x 2147483647 31 (by decide) (by decide)
  have h2 := (c_irem (x &&& (2147483647 : Int32)) 11 11 (by decide)).1 (by rw [h1]; omega)
  simp only [← Int32.toInt_inj]
  rw [h2]
  have e0 : (0 : Int32).toInt = 0 := by decide
  have e1 : (1 : Int32).toInt = 1 := by decide
  have e2 : (2 : Int32).toInt = 2 := by decide
  have e3 : (3 : Int32).toInt = 3 := by decide
  have e4 : (4 : Int32).toInt = 4 := by decide
  have e5 : (5 : Int32).toInt = 5 := by decide
  have e6 : (6 : Int32).toInt = 6 := by decide
  have e7 : (7 : Int32).toInt = 7 := by decide
  have e8 : (8 : Int32).toInt = 8 := by decide
  have e9 : (9 : Int32).toInt = 9 := by decide
  have e10 : (10 : Int32).toInt = 10 := by decide
  rw [e0, e1, e2, e3, e4, e5, e6, e7, e8, e9, e10]
  omega
theorem own_eqI {args : Array Value} {first s : State} {o : Option Outcome} {idx : List Nat} {t : Term} {n : Int32} (h : (Jvm.Cond.eq t (.int n)).value args first o s idx = some true) : t.eval args first o idx s = some (.int n) := by
  cases ht : t.eval args first o idx s with
  | none => simp [Cond.value, ht] at h
  | some v => cases v <;> simp [Cond.value, Term.eval, ht] at h ⊢ <;> exact h
theorem own_ne {s : State} {a b : Addr} {C n d : String} {x y : Int32} (h1 : s.fieldOf? a C n d = some (.int x)) (h2 : s.fieldOf? b C n d = some (.int y)) (hne : x ≠ y) : a ≠ b := fun e => by
  subst e; rw [h1] at h2; exact hne (Value.int.inj (Option.some.inj h2))
set_option maxRecDepth 65536 in
set_option maxHeartbeats 40000000 in
theorem comes_1 {Post : Tables → Env → Array Value → State → Outcome → State → Prop} (hpost : ∀ tb e args s v u, (limb_1_1.after args s (.returned v) u = true ∧ limb_1_2.after args s (.returned v) u = true ∧ True) → FrameEnd s (.returned v) u (Jvm.fieldLocs frame_1_writes args s ++ Jvm.arrayLocs frame_1_arrays args s ++ Jvm.staticLocs frame_1_statics s) 0 0 → Post tb e args s (.returned v) u) :
    ArmFor flags0 classFile x code maxLocals ret World_1 tables_1 room_1 Calls_1 rest_1 Pre_1 Post := by
  intro l hfl _ _ p e ha hc hk s m args below hf hA hF happ hP
  obtain ⟨hcalls, hrest, hpre⟩ := hP
  obtain ⟨-, -, -, hnamed, -, -, -, hat⟩ := (Spec.applies_iff hf).mp happ
  obtain ⟨hg, hn⟩ := and_e (Cond.before_iff.mp (show (Jvm.Cond.and given_1 narrow_1).before args s = true from hpre))
  obtain ⟨hcnt, g0⟩ := and_e hg
  obtain ⟨ga0, g1⟩ := and_e g0
  obtain ⟨ga1, g2⟩ := and_e g1
  have ga2 := g2
  obtain ⟨w0, w1, w2, rfl⟩ : ∃ w0 w1 w2 : Value, args = #[w0, w1, w2] := by
    have hs : args.size = 3 := by simpa [Cond.value, given_1] using hcnt
    obtain ⟨L⟩ := args
    match L, hs with
    | [w0, w1, w2], _ => exact ⟨w0, w1, w2, rfl⟩
  have hw := fun d (hd : d ∈ tables_1) => atoms_spec (ws := Jvm.Cond.code x code maxLocals ret :: tables_1) hat d (List.mem_cons_of_mem _ hd)
  have hfit : Fit s := fun {y c} hc i hi => by
    obtain ⟨ha, rfl⟩ := Array.getElem?_eq_some_iff.mp hc
    have q := List.all_eq_true.mp ((Array.all_eq_true_iff_forall_mem.mp hF) _ (Array.getElem_mem ha)) i (List.mem_range.mpr hi)
    simpa [Array.getElem?_eq_getElem hi] using q
  obtain ⟨i0, ei0⟩ := is_v ga0
  obtain rfl : w0 = (.int i0) := Option.some.inj ei0
  obtain ⟨i1, ei1⟩ := is_v ga1
  obtain rfl : w1 = (.int i1) := Option.some.inj ei1
  obtain ⟨i2, ei2⟩ := is_v ga2
  obtain rfl : w2 = (.int i2) := Option.some.inj ei2
  obtain ⟨xMETADATA, hn0⟩ := and_e hn
  obtain ⟨loMETADATA, hn1⟩ := and_e hn0
  obtain ⟨upMETADATA, hn2⟩ := and_e hn1
  obtain ⟨xSASL_HANDSHAKE, hn3⟩ := and_e hn2
  obtain ⟨loSASL_HANDSHAKE, hn4⟩ := and_e hn3
  obtain ⟨upSASL_HANDSHAKE, hn5⟩ := and_e hn4
  obtain ⟨xDESCRIBE_CLUSTER, hn6⟩ := and_e hn5
  obtain ⟨loDESCRIBE_CLUSTER, hn7⟩ := and_e hn6
  obtain ⟨upDESCRIBE_CLUSTER, hn8⟩ := and_e hn7
  obtain ⟨xCREATE_PARTITIONS, hn9⟩ := and_e hn8
  obtain ⟨loCREATE_PARTITIONS, hn10⟩ := and_e hn9
  obtain ⟨upCREATE_PARTITIONS, hn11⟩ := and_e hn10
  obtain ⟨xDESCRIBE_CONFIGS, hn12⟩ := and_e hn11
  obtain ⟨loDESCRIBE_CONFIGS, hn13⟩ := and_e hn12
  obtain ⟨upDESCRIBE_CONFIGS, hn14⟩ := and_e hn13
  obtain ⟨xCREATE_TOPICS, hn15⟩ := and_e hn14
  obtain ⟨loCREATE_TOPICS, hn16⟩ := and_e hn15
  obtain ⟨upCREATE_TOPICS, hn17⟩ := and_e hn16
  obtain ⟨xAPI_VERSIONS, hn18⟩ := and_e hn17
  obtain ⟨loAPI_VERSIONS, hn19⟩ := and_e hn18
  obtain ⟨xALTER_CONFIGS, hn20⟩ := and_e hn19
  obtain ⟨loALTER_CONFIGS, hn21⟩ := and_e hn20
  obtain ⟨upAPI_VERSIONS, hn22⟩ := and_e hn21
  obtain ⟨xSASL_AUTHENTICATE, hn23⟩ := and_e hn22
  obtain ⟨loSASL_AUTHENTICATE, hn24⟩ := and_e hn23
  obtain ⟨upSASL_AUTHENTICATE, hn25⟩ := and_e hn24
  obtain ⟨xINCREMENTAL_ALTER_CONFIGS, hn26⟩ := and_e hn25
  obtain ⟨loINCREMENTAL_ALTER_CONFIGS, hn27⟩ := and_e hn26
  obtain ⟨upINCREMENTAL_ALTER_CONFIGS, hn28⟩ := and_e hn27
  obtain ⟨upALTER_CONFIGS, hn29⟩ := and_e hn28
  obtain ⟨xDELETE_TOPICS, hn30⟩ := and_e hn29
  obtain ⟨loDELETE_TOPICS, hn31⟩ := and_e hn30
  have upDELETE_TOPICS := hn31
  obtain ⟨w0, vMETADATA⟩ := exa_v xMETADATA
  have SMETADATA := Sta.start vMETADATA (Or.inr ⟨(hw _ (List.mem_of_getElem? (i := 6) rfl)), (hw _ (List.mem_of_getElem? (i := 7) rfl))⟩)
  have EMETADATA := Exa.start vMETADATA xMETADATA
  have AMETADATA := Fld.start ((fld_at vMETADATA).symm.trans (own_eqI loMETADATA))
  have BMETADATA := Fld.start ((fld_at vMETADATA).symm.trans (own_eqI upMETADATA))
  obtain ⟨w1, vSASL_HANDSHAKE⟩ := exa_v xSASL_HANDSHAKE
  have SSASL_HANDSHAKE := Sta.start vSASL_HANDSHAKE (Or.inr ⟨(hw _ (List.mem_of_getElem? (i := 6) rfl)), (hw _ (List.mem_of_getElem? (i := 21) rfl))⟩)
  have ESASL_HANDSHAKE := Exa.start vSASL_HANDSHAKE xSASL_HANDSHAKE
  have ASASL_HANDSHAKE := Fld.start ((fld_at vSASL_HANDSHAKE).symm.trans (own_eqI loSASL_HANDSHAKE))
  have BSASL_HANDSHAKE := Fld.start ((fld_at vSASL_HANDSHAKE).symm.trans (own_eqI upSASL_HANDSHAKE))
  obtain ⟨w2, vAPI_VERSIONS⟩ := exa_v xAPI_VERSIONS
  have SAPI_VERSIONS := Sta.start vAPI_VERSIONS (Or.inr ⟨(hw _ (List.mem_of_getElem? (i := 6) rfl)), (hw _ (List.mem_of_getElem? (i := 31) rfl))⟩)
  have EAPI_VERSIONS := Exa.start vAPI_VERSIONS xAPI_VERSIONS
  have AAPI_VERSIONS := Fld.start ((fld_at vAPI_VERSIONS).symm.trans (own_eqI loAPI_VERSIONS))
  have BAPI_VERSIONS := Fld.start ((fld_at vAPI_VERSIONS).symm.trans (own_eqI upAPI_VERSIONS))
  obtain ⟨w3, vCREATE_TOPICS⟩ := exa_v xCREATE_TOPICS
  have SCREATE_TOPICS := Sta.start vCREATE_TOPICS (Or.inr ⟨(hw _ (List.mem_of_getElem? (i := 6) rfl)), (hw _ (List.mem_of_getElem? (i := 29) rfl))⟩)
  have ECREATE_TOPICS := Exa.start vCREATE_TOPICS xCREATE_TOPICS
  have ACREATE_TOPICS := Fld.start ((fld_at vCREATE_TOPICS).symm.trans (own_eqI loCREATE_TOPICS))
  have BCREATE_TOPICS := Fld.start ((fld_at vCREATE_TOPICS).symm.trans (own_eqI upCREATE_TOPICS))
  obtain ⟨w4, vDELETE_TOPICS⟩ := exa_v xDELETE_TOPICS
  have SDELETE_TOPICS := Sta.start vDELETE_TOPICS (Or.inr ⟨(hw _ (List.mem_of_getElem? (i := 6) rfl)), (hw _ (List.mem_of_getElem? (i := 39) rfl))⟩)
  have EDELETE_TOPICS := Exa.start vDELETE_TOPICS xDELETE_TOPICS
  have ADELETE_TOPICS := Fld.start ((fld_at vDELETE_TOPICS).symm.trans (own_eqI loDELETE_TOPICS))
  have BDELETE_TOPICS := Fld.start ((fld_at vDELETE_TOPICS).symm.trans (own_eqI upDELETE_TOPICS))
  obtain ⟨w5, vDESCRIBE_CONFIGS⟩ := exa_v xDESCRIBE_CONFIGS
  have SDESCRIBE_CONFIGS := Sta.start vDESCRIBE_CONFIGS (Or.inr ⟨(hw _ (List.mem_of_getElem? (i := 6) rfl)), (hw _ (List.mem_of_getElem? (i := 27) rfl))⟩)
  have EDESCRIBE_CONFIGS := Exa.start vDESCRIBE_CONFIGS xDESCRIBE_CONFIGS
  have ADESCRIBE_CONFIGS := Fld.start ((fld_at vDESCRIBE_CONFIGS).symm.trans (own_eqI loDESCRIBE_CONFIGS))
  have BDESCRIBE_CONFIGS := Fld.start ((fld_at vDESCRIBE_CONFIGS).symm.trans (own_eqI upDESCRIBE_CONFIGS))
  obtain ⟨w6, vALTER_CONFIGS⟩ := exa_v xALTER_CONFIGS
  have SALTER_CONFIGS := Sta.start vALTER_CONFIGS (Or.inr ⟨(hw _ (List.mem_of_getElem? (i := 6) rfl)), (hw _ (List.mem_of_getElem? (i := 33) rfl))⟩)
  have EALTER_CONFIGS := Exa.start vALTER_CONFIGS xALTER_CONFIGS
  have AALTER_CONFIGS := Fld.start ((fld_at vALTER_CONFIGS).symm.trans (own_eqI loALTER_CONFIGS))
  have BALTER_CONFIGS := Fld.start ((fld_at vALTER_CONFIGS).symm.trans (own_eqI upALTER_CONFIGS))
  obtain ⟨w7, vSASL_AUTHENTICATE⟩ := exa_v xSASL_AUTHENTICATE
  have SSASL_AUTHENTICATE := Sta.start vSASL_AUTHENTICATE (Or.inr ⟨(hw _ (List.mem_of_getElem? (i := 6) rfl)), (hw _ (List.mem_of_getElem? (i := 35) rfl))⟩)
  have ESASL_AUTHENTICATE := Exa.start vSASL_AUTHENTICATE xSASL_AUTHENTICATE
  have ASASL_AUTHENTICATE := Fld.start ((fld_at vSASL_AUTHENTICATE).symm.trans (own_eqI loSASL_AUTHENTICATE))
  have BSASL_AUTHENTICATE := Fld.start ((fld_at vSASL_AUTHENTICATE).symm.trans (own_eqI upSASL_AUTHENTICATE))
  obtain ⟨w8, vCREATE_PARTITIONS⟩ := exa_v xCREATE_PARTITIONS
  have SCREATE_PARTITIONS := Sta.start vCREATE_PARTITIONS (Or.inr ⟨(hw _ (List.mem_of_getElem? (i := 6) rfl)), (hw _ (List.mem_of_getElem? (i := 25) rfl))⟩)
  have ECREATE_PARTITIONS := Exa.start vCREATE_PARTITIONS xCREATE_PARTITIONS
  have ACREATE_PARTITIONS := Fld.start ((fld_at vCREATE_PARTITIONS).symm.trans (own_eqI loCREATE_PARTITIONS))
  have BCREATE_PARTITIONS := Fld.start ((fld_at vCREATE_PARTITIONS).symm.trans (own_eqI upCREATE_PARTITIONS))
  obtain ⟨w9, vINCREMENTAL_ALTER_CONFIGS⟩ := exa_v xINCREMENTAL_ALTER_CONFIGS
  have SINCREMENTAL_ALTER_CONFIGS := Sta.start vINCREMENTAL_ALTER_CONFIGS (Or.inr ⟨(hw _ (List.mem_of_getElem? (i := 6) rfl)), (hw _ (List.mem_of_getElem? (i := 37) rfl))⟩)
  have EINCREMENTAL_ALTER_CONFIGS := Exa.start vINCREMENTAL_ALTER_CONFIGS xINCREMENTAL_ALTER_CONFIGS
  have AINCREMENTAL_ALTER_CONFIGS := Fld.start ((fld_at vINCREMENTAL_ALTER_CONFIGS).symm.trans (own_eqI loINCREMENTAL_ALTER_CONFIGS))
  have BINCREMENTAL_ALTER_CONFIGS := Fld.start ((fld_at vINCREMENTAL_ALTER_CONFIGS).symm.trans (own_eqI upINCREMENTAL_ALTER_CONFIGS))
  obtain ⟨w10, vDESCRIBE_CLUSTER⟩ := exa_v xDESCRIBE_CLUSTER
  have SDESCRIBE_CLUSTER := Sta.start vDESCRIBE_CLUSTER (Or.inr ⟨(hw _ (List.mem_of_getElem? (i := 6) rfl)), (hw _ (List.mem_of_getElem? (i := 23) rfl))⟩)
  have EDESCRIBE_CLUSTER := Exa.start vDESCRIBE_CLUSTER xDESCRIBE_CLUSTER
  have ADESCRIBE_CLUSTER := Fld.start ((fld_at vDESCRIBE_CLUSTER).symm.trans (own_eqI loDESCRIBE_CLUSTER))
  have BDESCRIBE_CLUSTER := Fld.start ((fld_at vDESCRIBE_CLUSTER).symm.trans (own_eqI upDESCRIBE_CLUSTER))
  obtain ⟨a, mx, Ea, Fa, Fb, hp1, hm1⟩ : ∃ (a : Addr) (mx : Int32), Exa s s.heap a "com/example/partition/partition/protocol/Api" ∧ Fld s s.heap a "com/example/partition/partition/protocol/Api" "minVersion" "S" (.int (0 : Int32)) ∧ Fld s s.heap a "com/example/partition/partition/protocol/Api" "maxVersion" "S" (.int mx) ∧ pickV ((i0 &&& (2147483647 : Int32)) % (11 : Int32)) w0 w1 w2 w3 w4 w5 w6 w7 w8 w9 w10 = a ∧ maxV ((i0 &&& (2147483647 : Int32)) % (11 : Int32)) = mx := by
    rcases own_mod11 i0 with q | q | q | q | q | q | q | q | q | q | q <;> rw [q]
    · exact ⟨w0, 13, EMETADATA, AMETADATA, BMETADATA, by simp [pickV], by simp [maxV]⟩
    · exact ⟨w1, 1, ESASL_HANDSHAKE, ASASL_HANDSHAKE, BSASL_HANDSHAKE, by simp [pickV], by simp [maxV]⟩
    · exact ⟨w2, 4, EAPI_VERSIONS, AAPI_VERSIONS, BAPI_VERSIONS, by simp [pickV], by simp [maxV]⟩
    · exact ⟨w3, 7, ECREATE_TOPICS, ACREATE_TOPICS, BCREATE_TOPICS, by simp [pickV], by simp [maxV]⟩
    · exact ⟨w4, 6, EDELETE_TOPICS, ADELETE_TOPICS, BDELETE_TOPICS, by simp [pickV], by simp [maxV]⟩
    · exact ⟨w5, 4, EDESCRIBE_CONFIGS, ADESCRIBE_CONFIGS, BDESCRIBE_CONFIGS, by simp [pickV], by simp [maxV]⟩
    · exact ⟨w6, 2, EALTER_CONFIGS, AALTER_CONFIGS, BALTER_CONFIGS, by simp [pickV], by simp [maxV]⟩
    · exact ⟨w7, 2, ESASL_AUTHENTICATE, ASASL_AUTHENTICATE, BSASL_AUTHENTICATE, by simp [pickV], by simp [maxV]⟩
    · exact ⟨w8, 3, ECREATE_PARTITIONS, ACREATE_PARTITIONS, BCREATE_PARTITIONS, by simp [pickV], by simp [maxV]⟩
    · exact ⟨w9, 1, EINCREMENTAL_ALTER_CONFIGS, AINCREMENTAL_ALTER_CONFIGS, BINCREMENTAL_ALTER_CONFIGS, by simp [pickV], by simp [maxV]⟩
    · exact ⟨w10, 2, EDESCRIBE_CLUSTER, ADESCRIBE_CLUSTER, BDESCRIBE_CLUSTER, by simp [pickV], by simp [maxV]⟩
  obtain ⟨n, o, h1, h2, h3, _, L, rfl, ⟨rfl, N⟩, hq⟩ := rm0 l s _ hw tables_1 i0 i1 i2 w0 w1 w2 w3 w4 w5 w6 w7 w8 w9 w10 a mx s.heap s.heap.size (Nat.le_refl _) SMETADATA SSASL_HANDSHAKE SAPI_VERSIONS SCREATE_TOPICS SDELETE_TOPICS SDESCRIBE_CONFIGS SALTER_CONFIGS SSASL_AUTHENTICATE SCREATE_PARTITIONS SINCREMENTAL_ALTER_CONFIGS SDESCRIBE_CLUSTER Ea Fa Fb hp1 hm1 p e ha hc hk s m _ below hf ((Spec.applies_iff_loose hf).mp happ).1 ⟨rfl, State.Warmed39.refl s, rfl⟩ trivial
  refine ⟨n, _, h1, h2, h3, hpost _ _ _ _ _ _ ⟨Cond.after_iff.mpr rfl, Cond.after_iff.mpr (eq_i res_at (Term.int_eval (1)) rfl), trivial⟩ ⟨hq.1, hq.2.1, (hq.2.2.sift fun y hy => Or.inr (N y hy)).mono (by decide) (by decide)⟩⟩
theorem main_1_1 : Claimed_1_1 := comes_1 fun _ _ _ _ _ _ h hF => ⟨h.1, hF⟩
theorem main_1_2 : Claimed_1_2 := comes_1 fun _ _ _ _ _ _ h hF => ⟨h.2.1, hF⟩
end Jvm.Pilot.@@N@@
namespace Jvm.Pilot.@@N@@
open Jvm Jvm.ClassFile Sem Op Lib Jvm.Free Jvm.Stand Jvm.Pilot.@@N@@.Jvm.D
/-! MADE BY PROGRAM (witnessworld.py) out of the Statement's table words and the real class files: 12 classes; the members and pool entries that the words name. The judged class is class 1, her method 1. -/
namespace start1
open Jvm.ClassFile
def u (s : String) : CpInfo := .utf8 (stringToUtf16 s)
/-- a pool by its gaps: so many unusable entries, then the entry; so many at the end -/
def gap : Nat → List CpInfo → List CpInfo
  | 0, r => r
  | n + 1, r => .unusable :: gap n r
def poolList (es : List (Nat × CpInfo)) (last : Nat) : List CpInfo := es.foldr (fun e r => gap e.1 (e.2 :: r)) (gap last [])
def pool (es : List (Nat × CpInfo)) (last : Nat) : Array CpInfo := ⟨poolList es last⟩
def fileOf (pool : Array CpInfo) (this : Nat) (attrs : Array Attribute := #[]) (ms : Array MethodInfo := #[]) (fl : Nat := 33) (sup : Nat := 0) (ifs : Array Nat := #[]) (fds : Array FieldInfo := #[]) : ClassFile where
  minorVersion := 0
  majorVersion := 65
  constantPool := pool
  accessFlags := fl
  thisClass := this
  superClass := sup
  interfaces := ifs
  fields := fds
  methods := ms
  attributes := attrs
def plain (name : String) (sup : Option ClassId) : Class where
  name := name
  kind := .ordinary
  loader := none
  accessFlags := 33
  super := sup
  interfaces := #[]
  cf := none
  fields := #[]
  methods := #[]
  instanceTypes := #[]
  staticTypes := #[]
  resolved := #[]
  callSites := []
  init := .initialized
  statics := none
  mirror := none

def pool0 : Array CpInfo := pool [(5, u "<init>"), (0, u "()V"), (1, .class_ 10), (1, u "java/lang/Object")] 113

def k0m0 : Method := { name := "<init>", desc := "()V", sig := { parameters := [], returnType := none }, accessFlags := 1, code := none }
/-- java/lang/Object -/
def k0 : Class := { plain "java/lang/Object" none with
  accessFlags := 33
  interfaces := #[]
  cf := some (fileOf pool0 8 #[] #[{ accessFlags := 1, nameIndex := 5, descriptorIndex := 6, attributes := #[] }] 33 0 #[] #[])
  fields := #[]
  methods := #[k0m0]
  instanceTypes := #[]
  staticTypes := #[]
  resolved := Array.replicate 124 none
  statics := none }

def pool1 : Array CpInfo := pool [(2, .class_ 4), (1, u "java/lang/Object"), (0, u "<init>"), (0, u "()V"), (0, .integer 2147483647), (0, .methodref 9 10), (0, .class_ 11), (0, .nameAndType 12 13), (0, u "com/example/partition/partition/protocol/ApiAnswersPinLaw"), (0, u "pick"), (0, u "(I)Lcom/example/partition/partition/protocol/Api;"), (0, .methodref 9 15), (0, .nameAndType 16 17), (0, u "maxOf"), (0, u "(I)I"), (0, .methodref 19 20), (0, .class_ 21), (0, .nameAndType 22 23), (0, u "com/example/partition/partition/protocol/Api"), (0, u "answers"), (0, u "(S)Z"), (0, .fieldref 19 25), (0, .nameAndType 26 27), (0, u "METADATA"), (0, u "Lcom/example/partition/partition/protocol/Api;"), (0, .fieldref 19 29), (0, .nameAndType 30 27), (0, u "SASL_HANDSHAKE"), (0, .fieldref 19 32), (0, .nameAndType 33 27), (0, u "API_VERSIONS"), (0, .fieldref 19 35), (0, .nameAndType 36 27), (0, u "CREATE_TOPICS"), (0, .fieldref 19 38), (0, .nameAndType 39 27), (0, u "DELETE_TOPICS"), (0, .fieldref 19 41), (0, .nameAndType 42 27), (0, u "DESCRIBE_CONFIGS"), (0, .fieldref 19 44), (0, .nameAndType 45 27), (0, u "ALTER_CONFIGS"), (0, .fieldref 19 47), (0, .nameAndType 48 27), (0, u "SASL_AUTHENTICATE"), (0, .fieldref 19 50), (0, .nameAndType 51 27), (0, u "CREATE_PARTITIONS"), (0, .fieldref 19 53), (0, .nameAndType 54 27), (0, u "INCREMENTAL_ALTER_CONFIGS"), (0, .fieldref 19 56), (0, .nameAndType 57 27), (0, u "DESCRIBE_CLUSTER"), (2, u "law"), (0, u "(III)Z")] 3

def k1m0 : Method := { name := "<init>", desc := "()V", sig := { parameters := [], returnType := none }, accessFlags := 1, code := none }
def k1c1 : Code := { maxStack := 3, maxLocals := 10, code := code, exceptionTable := #[], attributes := #[] }
def k1m1 : Method := { name := "law", desc := "(III)Z", sig := { parameters := [.int, .int, .int], returnType := some .boolean }, accessFlags := 9, code := some k1c1 }
def k1c2 : Code := { maxStack := 2, maxLocals := 1, code := method_3_code, exceptionTable := #[], attributes := #[] }
def k1m2 : Method := { name := "pick", desc := "(I)Lcom/example/partition/partition/protocol/Api;", sig := { parameters := [.int], returnType := some (.object "com/example/partition/partition/protocol/Api") }, accessFlags := 10, code := some k1c2 }
def k1c3 : Code := { maxStack := 2, maxLocals := 1, code := method_4_code, exceptionTable := #[], attributes := #[] }
def k1m3 : Method := { name := "maxOf", desc := "(I)I", sig := { parameters := [.int], returnType := some .int }, accessFlags := 10, code := some k1c3 }
/-- com/example/partition/partition/protocol/ApiAnswersPinLaw -/
def k1 : Class := { plain "com/example/partition/partition/protocol/ApiAnswersPinLaw" (some 0) with
  accessFlags := 49
  interfaces := #[]
  cf := some (fileOf pool1 9 #[] #[{ accessFlags := 1, nameIndex := 5, descriptorIndex := 6, attributes := #[] }, { accessFlags := 9, nameIndex := 60, descriptorIndex := 61, attributes := #[] }, { accessFlags := 10, nameIndex := 12, descriptorIndex := 13, attributes := #[] }, { accessFlags := 10, nameIndex := 16, descriptorIndex := 17, attributes := #[] }] 49 2 #[] #[])
  fields := #[]
  methods := #[k1m0, k1m1, k1m2, k1m3]
  instanceTypes := #[]
  staticTypes := #[]
  resolved := Array.replicate 65 none
  statics := none }

def pool2 : Array CpInfo := pool [(1, .class_ 2), (0, u "java/lang/constant/Constable"), (0, .class_ 4), (0, u "java/lang/Object")] 6

/-- java/lang/constant/Constable -/
def k2 : Class := { plain "java/lang/constant/Constable" (some 0) with
  accessFlags := 1537
  interfaces := #[]
  cf := some (fileOf pool2 1 #[] #[] 1537 3 #[] #[])
  fields := #[]
  methods := #[]
  instanceTypes := #[]
  staticTypes := #[]
  resolved := Array.replicate 11 none
  statics := none }

def pool3 : Array CpInfo := pool [(1, .class_ 2), (0, u "java/lang/Comparable"), (0, .class_ 4), (0, u "java/lang/Object")] 7

/-- java/lang/Comparable -/
def k3 : Class := { plain "java/lang/Comparable" (some 0) with
  accessFlags := 1537
  interfaces := #[]
  cf := some (fileOf pool3 1 #[] #[] 1537 3 #[] #[])
  fields := #[]
  methods := #[]
  instanceTypes := #[]
  staticTypes := #[]
  resolved := Array.replicate 12 none
  statics := none }

def pool4 : Array CpInfo := pool [(1, .class_ 2), (0, u "java/io/Serializable"), (0, .class_ 4), (0, u "java/lang/Object")] 2

/-- java/io/Serializable -/
def k4 : Class := { plain "java/io/Serializable" (some 0) with
  accessFlags := 1537
  interfaces := #[]
  cf := some (fileOf pool4 1 #[] #[] 1537 3 #[] #[])
  fields := #[]
  methods := #[]
  instanceTypes := #[]
  staticTypes := #[]
  resolved := Array.replicate 7 none
  statics := none }

def pool5 : Array CpInfo := pool [(2, .class_ 4), (1, u "java/lang/Enum"), (0, u "name"), (0, u "Ljava/lang/String;"), (2, u "ordinal"), (0, u "I"), (1, .class_ 14), (1, u "java/lang/Object"), (4, u "hash"), (86, .class_ 108), (1, u "java/lang/Enum$EnumDesc"), (2, .class_ 112), (0, u "java/lang/constant/Constable"), (0, .class_ 114), (0, u "java/lang/Comparable"), (0, .class_ 116), (0, u "java/io/Serializable")] 87

/-- java/lang/Enum -/
def k5 : Class := { plain "java/lang/Enum" (some 0) with
  accessFlags := 1057
  interfaces := #[2, 3, 4]
  cf := some (fileOf pool5 2 #[.nestMembers #[106]] #[] 1057 12 #[111, 113, 115] #[{ accessFlags := 18, nameIndex := 5, descriptorIndex := 6, attributes := #[] }, { accessFlags := 18, nameIndex := 9, descriptorIndex := 10, attributes := #[] }, { accessFlags := 2, nameIndex := 19, descriptorIndex := 10, attributes := #[] }])
  fields := #[{ name := "name", type := (.object "java/lang/String"), accessFlags := 18, slot := 0, constantValue := 0 }, { name := "ordinal", type := .int, accessFlags := 18, slot := 1, constantValue := 0 }, { name := "hash", type := .int, accessFlags := 2, slot := 2, constantValue := 0 }]
  methods := #[]
  instanceTypes := #[(.object "java/lang/String"), .int, .int]
  staticTypes := #[]
  resolved := Array.replicate 204 none
  statics := none }

def pool6 : Array CpInfo := pool [(3, .class_ 4), (0, u "com/example/partition/partition/protocol/Api"), (2, u "METADATA"), (0, u "Lcom/example/partition/partition/protocol/Api;"), (2, u "SASL_HANDSHAKE"), (2, u "API_VERSIONS"), (2, u "CREATE_TOPICS"), (2, u "DELETE_TOPICS"), (2, u "DESCRIBE_CONFIGS"), (2, u "ALTER_CONFIGS"), (2, u "SASL_AUTHENTICATE"), (2, u "CREATE_PARTITIONS"), (2, u "INCREMENTAL_ALTER_CONFIGS"), (2, u "DESCRIBE_CLUSTER"), (2, u "$VALUES"), (0, u "[Lcom/example/partition/partition/protocol/Api;"), (6, .class_ 51), (1, u "java/lang/Enum"), (11, u "key"), (0, u "S"), (0, .fieldref 3 66), (0, .nameAndType 67 64), (0, u "minVersion"), (0, .fieldref 3 69), (0, .nameAndType 70 64), (0, u "maxVersion"), (2, u "firstFlexibleVersion"), (2, u "sasl"), (0, u "Z"), (21, u "NEVER_FLEXIBLE"), (0, u "I"), (16, u "answers"), (0, u "(S)Z")] 8

def k6c0 : Code := { maxStack := 2, maxLocals := 2, code := prog_44_method_9_code, exceptionTable := #[], attributes := #[] }
def k6m0 : Method := { name := "answers", desc := "(S)Z", sig := { parameters := [.short], returnType := some .boolean }, accessFlags := 1, code := some k6c0 }
/-- com/example/partition/partition/protocol/Api -/
def k6 : Class := { plain "com/example/partition/partition/protocol/Api" (some 5) with
  accessFlags := 16433
  interfaces := #[]
  cf := some (fileOf pool6 3 #[] #[{ accessFlags := 1, nameIndex := 117, descriptorIndex := 118, attributes := #[] }] 16433 49 #[] #[{ accessFlags := 16409, nameIndex := 7, descriptorIndex := 8, attributes := #[] }, { accessFlags := 16409, nameIndex := 11, descriptorIndex := 8, attributes := #[] }, { accessFlags := 16409, nameIndex := 14, descriptorIndex := 8, attributes := #[] }, { accessFlags := 16409, nameIndex := 17, descriptorIndex := 8, attributes := #[] }, { accessFlags := 16409, nameIndex := 20, descriptorIndex := 8, attributes := #[] }, { accessFlags := 16409, nameIndex := 23, descriptorIndex := 8, attributes := #[] }, { accessFlags := 16409, nameIndex := 26, descriptorIndex := 8, attributes := #[] }, { accessFlags := 16409, nameIndex := 29, descriptorIndex := 8, attributes := #[] }, { accessFlags := 16409, nameIndex := 32, descriptorIndex := 8, attributes := #[] }, { accessFlags := 16409, nameIndex := 35, descriptorIndex := 8, attributes := #[] }, { accessFlags := 16409, nameIndex := 38, descriptorIndex := 8, attributes := #[] }, { accessFlags := 26, nameIndex := 99, descriptorIndex := 100, attributes := #[] }, { accessFlags := 18, nameIndex := 63, descriptorIndex := 64, attributes := #[] }, { accessFlags := 18, nameIndex := 67, descriptorIndex := 64, attributes := #[] }, { accessFlags := 18, nameIndex := 70, descriptorIndex := 64, attributes := #[] }, { accessFlags := 18, nameIndex := 73, descriptorIndex := 64, attributes := #[] }, { accessFlags := 18, nameIndex := 76, descriptorIndex := 77, attributes := #[] }, { accessFlags := 4122, nameIndex := 41, descriptorIndex := 42, attributes := #[] }])
  fields := #[{ name := "METADATA", type := (.object "com/example/partition/partition/protocol/Api"), accessFlags := 16409, slot := 0, constantValue := 0 }, { name := "SASL_HANDSHAKE", type := (.object "com/example/partition/partition/protocol/Api"), accessFlags := 16409, slot := 1, constantValue := 0 }, { name := "API_VERSIONS", type := (.object "com/example/partition/partition/protocol/Api"), accessFlags := 16409, slot := 2, constantValue := 0 }, { name := "CREATE_TOPICS", type := (.object "com/example/partition/partition/protocol/Api"), accessFlags := 16409, slot := 3, constantValue := 0 }, { name := "DELETE_TOPICS", type := (.object "com/example/partition/partition/protocol/Api"), accessFlags := 16409, slot := 4, constantValue := 0 }, { name := "DESCRIBE_CONFIGS", type := (.object "com/example/partition/partition/protocol/Api"), accessFlags := 16409, slot := 5, constantValue := 0 }, { name := "ALTER_CONFIGS", type := (.object "com/example/partition/partition/protocol/Api"), accessFlags := 16409, slot := 6, constantValue := 0 }, { name := "SASL_AUTHENTICATE", type := (.object "com/example/partition/partition/protocol/Api"), accessFlags := 16409, slot := 7, constantValue := 0 }, { name := "CREATE_PARTITIONS", type := (.object "com/example/partition/partition/protocol/Api"), accessFlags := 16409, slot := 8, constantValue := 0 }, { name := "INCREMENTAL_ALTER_CONFIGS", type := (.object "com/example/partition/partition/protocol/Api"), accessFlags := 16409, slot := 9, constantValue := 0 }, { name := "DESCRIBE_CLUSTER", type := (.object "com/example/partition/partition/protocol/Api"), accessFlags := 16409, slot := 10, constantValue := 0 }, { name := "NEVER_FLEXIBLE", type := .int, accessFlags := 26, slot := 11, constantValue := 0 }, { name := "key", type := .short, accessFlags := 18, slot := 3, constantValue := 0 }, { name := "minVersion", type := .short, accessFlags := 18, slot := 4, constantValue := 0 }, { name := "maxVersion", type := .short, accessFlags := 18, slot := 5, constantValue := 0 }, { name := "firstFlexibleVersion", type := .short, accessFlags := 18, slot := 6, constantValue := 0 }, { name := "sasl", type := .boolean, accessFlags := 18, slot := 7, constantValue := 0 }, { name := "$VALUES", type := (.array (.object "com/example/partition/partition/protocol/Api")), accessFlags := 4122, slot := 12, constantValue := 0 }]
  methods := #[k6m0]
  instanceTypes := #[(.object "java/lang/String"), .int, .int, .short, .short, .short, .short, .boolean]
  staticTypes := #[(.object "com/example/partition/partition/protocol/Api"), (.object "com/example/partition/partition/protocol/Api"), (.object "com/example/partition/partition/protocol/Api"), (.object "com/example/partition/partition/protocol/Api"), (.object "com/example/partition/partition/protocol/Api"), (.object "com/example/partition/partition/protocol/Api"), (.object "com/example/partition/partition/protocol/Api"), (.object "com/example/partition/partition/protocol/Api"), (.object "com/example/partition/partition/protocol/Api"), (.object "com/example/partition/partition/protocol/Api"), (.object "com/example/partition/partition/protocol/Api"), .int, (.array (.object "com/example/partition/partition/protocol/Api"))]
  resolved := Array.replicate 127 none
  statics := some 0 }

def pool7 : Array CpInfo := pool [(1, u "java/lang/Cloneable"), (0, .class_ 1), (0, u "java/lang/Object"), (0, .class_ 3)] 3

/-- java/lang/Cloneable -/
def k7 : Class := { plain "java/lang/Cloneable" (some 0) with
  accessFlags := 1537
  interfaces := #[]
  cf := some (fileOf pool7 2 #[] #[] 1537 4 #[] #[])
  fields := #[]
  methods := #[]
  instanceTypes := #[]
  staticTypes := #[]
  resolved := Array.replicate 8 none
  statics := none }

/-- the primitive byte -/
def k8 : Class := { plain "byte" none with kind := .primitive 'B', accessFlags := 0x411 }
/-- [B -/
def k9 : Class := { plain "[B" (some 0) with kind := .array 8 .byte, interfaces := #[7, 4], accessFlags := 1041 }

/-- the primitive int -/
def k10 : Class := { plain "int" none with kind := .primitive 'I', accessFlags := 0x411 }
/-- [I -/
def k11 : Class := { plain "[I" (some 0) with kind := .array 10 .int, interfaces := #[7, 4], accessFlags := 1041 }

def heap : Heap := #[{ cls := 6, slots := #[.ref 1, .ref 2, .ref 3, .ref 4, .ref 5, .ref 6, .ref 7, .ref 8, .ref 9, .ref 10, .ref 11, .int 0, .null], vm := .statics 6 },
  { cls := 6, slots := #[.null, .int 0, .int 0, .int 0, .int 0, .int 13, .int 0, .int 0], vm := .none },
  { cls := 6, slots := #[.null, .int 1, .int 0, .int 1, .int 0, .int 1, .int 0, .int 0], vm := .none },
  { cls := 6, slots := #[.null, .int 2, .int 0, .int 2, .int 0, .int 4, .int 0, .int 0], vm := .none },
  { cls := 6, slots := #[.null, .int 3, .int 0, .int 3, .int 0, .int 7, .int 0, .int 0], vm := .none },
  { cls := 6, slots := #[.null, .int 4, .int 0, .int 4, .int 0, .int 6, .int 0, .int 0], vm := .none },
  { cls := 6, slots := #[.null, .int 5, .int 0, .int 5, .int 0, .int 4, .int 0, .int 0], vm := .none },
  { cls := 6, slots := #[.null, .int 6, .int 0, .int 6, .int 0, .int 2, .int 0, .int 0], vm := .none },
  { cls := 6, slots := #[.null, .int 7, .int 0, .int 7, .int 0, .int 2, .int 0, .int 0], vm := .none },
  { cls := 6, slots := #[.null, .int 8, .int 0, .int 8, .int 0, .int 3, .int 0, .int 0], vm := .none },
  { cls := 6, slots := #[.null, .int 9, .int 0, .int 9, .int 0, .int 1, .int 0, .int 0], vm := .none },
  { cls := 6, slots := #[.null, .int 10, .int 0, .int 10, .int 0, .int 2, .int 0, .int 0], vm := .none }]
def classes : Array Class := #[k0, k1, k2, k3, k4, k5, k6, k7, k8, k9, k10, k11]
def interned : List (Array UInt16 × Addr) := []
def slotsUsed : Nat := 101
def theMethod : MethodId := ⟨1, 1⟩
def args0 : Array Value := #[.int 5, .int 1, .int 3]
def aboutOver (below : List Frame) : State where
  vm := { classes := classes, interned := interned.toArray }
  heap := heap
  slotsUsed := slotsUsed
  threads := #[{ frames := .invoking theMethod args0 :: below }]
def below0 : List Frame := [.native { method := ⟨0, 0⟩, args := #[] }]
def about1 : State := aboutOver below0
def p0 : Program := .bare "" "" ""
def e0 : Env := launch0.env 0 0 0
theorem w_frames : about1.frames = Frame.invoking theMethod args0 :: below0 := rfl
set_option maxRecDepth 65536 in
theorem w_args : argsFit about1.vm theMethod args0 = true := by decide +kernel
set_option maxRecDepth 65536 in
theorem w_heap : heapFits about1 = true := by decide +kernel
set_option maxRecDepth 65536 in
theorem w_runnable : about1.curStatus? = some .runnable := by decide +kernel
set_option maxRecDepth 65536 in
theorem w_alone : about1.alone = true := by decide +kernel
set_option maxRecDepth 65536 in
theorem w_named : about1.methodNamed? x = some theMethod := by decide +kernel
set_option maxRecDepth 65536 in
theorem w_hears : about1.hears theMethod below0 = true := by decide +kernel
set_option maxRecDepth 65536 in
theorem w_ripe : about1.ripe theMethod args0 below0 = true := by decide +kernel
theorem w_running : about1.status = .running := rfl
set_option maxRecDepth 65536 in
theorem w_room : about1.hasRoom e0.platform room_1 = true :=
  launch0.hasRoom_least _ room_1 (by decide +kernel) (by decide +kernel) (by decide +kernel) (by decide +kernel) (by decide +kernel) (by decide +kernel)
theorem allAtoms_all (ts : List Jvm.Cond) (a : Array Jvm.Value) (st : Jvm.State) : (allAtoms ts).before a st = ts.all (fun c => c.before a st) := by
  induction ts with
  | nil => rfl
  | cons c t ih =>
    show (Jvm.Cond.and c (allAtoms t)).before a st = _
    rw [Jvm.Cond.before_and, ih, List.all_cons]
def words1 : List Jvm.Cond := Jvm.Cond.code x code maxLocals ret :: tables_1
/-- a 'code' word, met by the world's own term for the bytes: nothing is compared byte by byte -/
theorem code_word {y : MethodName} {bytes : ByteArray} {mx : Nat} {rt : Option FieldType} {a : Array Value} {s : State} {m : MethodId} {meth : Method} {c : Code} (h1 : s.methodNamed? y = some m) (h2 : s.vm.method? m = some meth) (h3 : meth.code = some c) (h4 : c.code = bytes)
    (h5 : (c.maxLocals == mx && c.exceptionTable.isEmpty && decide (c.maxStack ≤ mostOperands) && decide (meth.sig.returnType = rt) && !meth.locks && decide (parseMethodDescriptor y.desc = some meth.sig)) = true) : (Jvm.Cond.code y bytes mx rt).before a s = true := by
  simp only [Bool.and_eq_true, beq_iff_eq, Bool.not_eq_true', decide_eq_true_eq] at h5
  obtain ⟨⟨⟨⟨⟨g1, g2⟩, g3⟩, g4⟩, g5⟩, g6⟩ := h5
  simp [Cond.before, Cond.holds, Cond.value, h1, h2, h3, h4, g1, g2, g3, g4, g5, g6]
def isCode : Jvm.Cond → Bool
  | .code _ _ _ _ => true
  | _ => false
theorem all_split {L : List Jvm.Cond} {P : Jvm.Cond → Bool} (h1 : L.all (fun c => isCode c || P c) = true) (h2 : ∀ c ∈ L.filter isCode, P c = true) : L.all P = true := by
  refine List.all_eq_true.mpr fun c hc => ?_
  have h := List.all_eq_true.mp h1 c hc
  rcases Bool.eq_false_or_eq_true (isCode c) with hi | hi
  · exact h2 c (List.mem_filter.mpr ⟨hc, hi⟩)
  · simpa [hi] using h
set_option maxRecDepth 65536 in
theorem w_c0 : (Jvm.Cond.code x code maxLocals ret).before args0 about1 = true := code_word (m := ⟨1, 1⟩) (meth := k1m1) (c := k1c1) (by decide +kernel) rfl rfl rfl (by decide +kernel)
set_option maxRecDepth 65536 in
theorem w_c1 : (Jvm.Cond.code ({ cls := "com/example/partition/partition/protocol/ApiAnswersPinLaw", name := "pick", desc := "(I)Lcom/example/partition/partition/protocol/Api;" } : Jvm.MethodName) method_3_code (1 : Nat) (Option.some (Jvm.ClassFile.FieldType.object "com/example/partition/partition/protocol/Api"))).before args0 about1 = true := code_word (m := ⟨1, 2⟩) (meth := k1m2) (c := k1c2) (by decide +kernel) rfl rfl rfl (by decide +kernel)
set_option maxRecDepth 65536 in
theorem w_c2 : (Jvm.Cond.code ({ cls := "com/example/partition/partition/protocol/ApiAnswersPinLaw", name := "maxOf", desc := "(I)I" } : Jvm.MethodName) method_4_code (1 : Nat) (Option.some Jvm.ClassFile.FieldType.int)).before args0 about1 = true := code_word (m := ⟨1, 3⟩) (meth := k1m3) (c := k1c3) (by decide +kernel) rfl rfl rfl (by decide +kernel)
set_option maxRecDepth 65536 in
theorem w_c3 : (Jvm.Cond.code ({ cls := "com/example/partition/partition/protocol/Api", name := "answers", desc := "(S)Z" } : Jvm.MethodName) prog_44_method_9_code (2 : Nat) (Option.some Jvm.ClassFile.FieldType.boolean)).before args0 about1 = true := code_word (m := ⟨6, 0⟩) (meth := k6m0) (c := k6c0) (by decide +kernel) rfl rfl rfl (by decide +kernel)
def codes1 : List Jvm.Cond := [Jvm.Cond.code x code maxLocals ret, Jvm.Cond.code ({ cls := "com/example/partition/partition/protocol/ApiAnswersPinLaw", name := "pick", desc := "(I)Lcom/example/partition/partition/protocol/Api;" } : Jvm.MethodName) method_3_code (1 : Nat) (Option.some (Jvm.ClassFile.FieldType.object "com/example/partition/partition/protocol/Api")), Jvm.Cond.code ({ cls := "com/example/partition/partition/protocol/ApiAnswersPinLaw", name := "maxOf", desc := "(I)I" } : Jvm.MethodName) method_4_code (1 : Nat) (Option.some Jvm.ClassFile.FieldType.int), Jvm.Cond.code ({ cls := "com/example/partition/partition/protocol/Api", name := "answers", desc := "(S)Z" } : Jvm.MethodName) prog_44_method_9_code (2 : Nat) (Option.some Jvm.ClassFile.FieldType.boolean)]
set_option maxRecDepth 65536 in
theorem codes_eq : words1.filter isCode = codes1 := rfl
theorem w_codes : ∀ c ∈ words1.filter isCode, c.before args0 about1 = true := by
  rw [codes_eq]
  intro c hc
  simp only [codes1, List.mem_cons, List.not_mem_nil, or_false] at hc
  rcases hc with rfl | rfl | rfl | rfl
  · exact w_c0
  · exact w_c1
  · exact w_c2
  · exact w_c3
set_option maxRecDepth 65536 in
theorem w_t1 : (words1.take 24).all (fun c => isCode c || c.before args0 about1) = true := by decide +kernel
set_option maxRecDepth 65536 in
theorem w_t2 : (words1.drop 24).all (fun c => isCode c || c.before args0 about1) = true := by decide +kernel
theorem w_tables : (allAtoms (Jvm.Cond.code x code maxLocals ret :: tables_1)).before args0 about1 = true := by
  rw [allAtoms_all]
  show words1.all (fun c => c.before args0 about1) = true
  refine all_split ?_ w_codes
  rw [← List.take_append_drop 24 words1, List.all_append, w_t1, w_t2]
  rfl
set_option maxRecDepth 65536 in
theorem w_case : (Jvm.Cond.and given_1 narrow_1).before args0 about1 = true := by decide +kernel
theorem w_applies : (headSpec (Jvm.Cond.code x code maxLocals ret :: tables_1) room_1).applies x e0.platform about1 = true :=
  (Spec.applies_iff w_frames).mpr ⟨w_running, w_runnable, w_alone, w_named, w_hears, w_ripe, w_room, w_tables⟩
theorem atStart : AtStart classFile x code maxLocals ret World_1 tables_1 room_1 Calls_1 rest_1 Pre_1 launch0 p0 e0 about1 theMethod args0 below0 :=
  ⟨lists_1, trivial, launch0.admits_env _ _ _, launch0.least_env, fairChoices_fair.cas, fairChoices_fair.clock, w_frames, w_args, w_heap, w_applies, trivial, trivial, w_case⟩
end start1
theorem witness_1 : WitnessClaimed_1 := ⟨start1.p0, start1.e0, start1.about1, start1.theMethod, start1.args0, start1.below0, start1.atStart⟩
end Jvm.Pilot.@@N@@
