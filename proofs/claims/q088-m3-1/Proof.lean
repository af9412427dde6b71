import JvmDerived
import JvmDerived.Pilot.@@N@@Statement
import JvmDerived.Pilot.@@N@@Code
set_option linter.unusedVariables false
set_option linter.unusedSimpArgs false
namespace Jvm.RoadKit
open Sem ClassFile Op Lib Jvm.Stand Jvm.Free Jvm.LawKit
section New
variable {p : Program} {l : Launch} {e : Env} {R : Room} {s : State} {m : MethodId} {args : Array Value} {below : List Frame} {meth : Method} {c : Code} {T : State} {locs : List Loc} {cells slots : Nat}
theorem retI (X : Stand p l e R s m args below meth c T locs cells slots) (hx : p.tables.exec = Jvm.exec) {pc : Nat} {Ls : Array Slot} {z : Int32} {rest : List Value} (hret : meth.sig.returnType = some .int) (hd : decode c.code pc = .ok (.ireturn, 1)) {fs : List Frame}
    (hl : ∀ (f : JFrame) (acts : List Action), f.method = m → f.locked = none → f.entered = [] → (doReturn e (T.setTop f) acts (some (.int z))).1 = T.setFrames fs) : Steps p.tables e below (T.setTop (mkF m pc Ls (.int z :: rest))) (T.setFrames fs) := by
  have hm' : T.vm.method? m = some meth := X.method'
  have hn : narrow .int (.int z) = .int z := rfl
  show Steps p.tables e below (T.setTop { method := m, pc := pc, locals := Ls, stack := _ :: rest, locked := none }) _
  jvm_step X.here [X.here.top, hx, hd, hm', hret, hn]
  first | (intro acts; rw [hl _ acts rfl rfl rfl]) | rw [hl _ _ rfl rfl rfl]
  exact Steps.refl _
end New
end Jvm.RoadKit
namespace Jvm.Pilot.@@N@@
open Jvm Jvm.ClassFile Sem Op Lib Jvm.Free Jvm.Stand Jvm.LawKit Jvm.RoadKit Bundle Jvm.Pilot.@@N@@.Jvm.D
abbrev own_S (p : Program) (e : Env) (b : List Frame) (T : State) (m : MethodId) (pc : Nat) (L : Array Slot) (S : List Value) (t : State) : Prop := Steps p.tables e b (T.setTop (mkF m pc L S)) t
theorem own_nn (x : Int32) : nar .char (nar .char x) = nar .char x := by simp only [nar, UInt32.toUInt32_toInt32, UInt16.toUInt16_toUInt32]
theorem own_n (k : Int32) : (((k &&& (2147483647 : Int32)) % (3 : Int32)) + (1 : Int32)) = 1 ∨ (((k &&& (2147483647 : Int32)) % (3 : Int32)) + (1 : Int32)) = 2 ∨ (((k &&& (2147483647 : Int32)) % (3 : Int32)) + (1 : Int32)) = 3 := by
  have e1 := c_mask k (2147483647 : Int32) 31 (by decide) (by decide)
  have e2 := (c_irem (k &&& (2147483647 : Int32)) 3 3 (by decide)).1 (by omega)
  have e3 := c_iadd ((k &&& (2147483647 : Int32)) % 3) 1
  have r3 := rng32 ((k &&& (2147483647 : Int32)) % 3 + 1)
  have l1 : (1 : Int32).toInt = 1 := by decide
  have l2 : (2 : Int32).toInt = 2 := by decide
  have l3 : (3 : Int32).toInt = 3 := by decide
  simp only [← Int32.toInt_inj, l1, l2, l3] at *
  omega
theorem ef_1 (m : MethodId) (p1 : Int32) (p2 : Int32) : entryFrame m #[(.int p1), (.int p2)] 2 = mkF m 0 #[iv p1, iv p2] [] := by first | (simp [entryFrame, mkF, argsToLocals, Value.category]; done) | rfl
def Q1 (Z : State) (p1 : Int32) (p2 : Int32) (h0 : Heap) (n0 : Nat) (v : Option Value) (h : Heap) (L : List Loc) : Prop := ∃ b : Int32, v = some (.int b) ∧ Fr n0 L ∧ h = h0
theorem d1_0 : decode jdk_29_method_69_code 0 = .ok (.iload_n 0, 1) := by decide +kernel
theorem d1_1 : decode jdk_29_method_69_code 1 = .ok (.iload_n 1, 1) := by decide +kernel
theorem d1_2 : decode jdk_29_method_69_code 2 = .ok (.if_icmp .gt 7, 3) := by decide +kernel
theorem d1_9 : decode jdk_29_method_69_code 9 = .ok (.iload_n 1, 1) := by decide +kernel
theorem d1_10 : decode jdk_29_method_69_code 10 = .ok (.ireturn, 1) := by decide +kernel
theorem d1_5 : decode jdk_29_method_69_code 5 = .ok (.iload_n 0, 1) := by decide +kernel
theorem d1_6 : decode jdk_29_method_69_code 6 = .ok (.goto 4, 3) := by decide +kernel
set_option maxRecDepth 65536 in
set_option maxHeartbeats 40000000 in
theorem rm1 (l : Launch) (Z : State) (a0 : Array Value) (hw : ∀ d ∈ tables_1, d.before a0 Z = true) (ws : List Jvm.Cond) (p1 : Int32) (p2 : Int32) (h0 : Heap) (n0 : Nat) (Z0 : n0 ≤ h0.size)  :
    MetFree l (⟨"java/lang/Math", "min", "(II)I"⟩ : MethodName) (head1 (Jvm.Cond.code (⟨"java/lang/Math", "min", "(II)I"⟩ : MethodName) jdk_29_method_69_code 2 (some .int) :: ws) ({ frames := 0, cells := 0, slots := 0, locals := 0 } : Room)) (fun a U => a = #[(.int p1), (.int p2)] ∧ Z.Warmed39 U.vm ∧ U.heap = h0) (fun _ _ _ _ _ => True) (fun _ U o U' => ∃ v L, o = .returned v ∧ Q1 Z p1 p2 h0 n0 v U'.heap L ∧ FrameEnd U o U' L ({ frames := 0, cells := 0, slots := 0, locals := 0 } : Room).cells ({ frames := 0, cells := 0, slots := 0, locals := 0 } : Room).slots) := by
  refine MetFree.of_bodySF (Jvm.Free.JP.mathPlain rfl (by decide +kernel)) hisR ?_
  intro p e s m args below meth c s₁ Bd hml0 hP hK
  obtain ⟨rfl, hZ, hh⟩ := hP
  have hx := Bd.exec
  have hby := Bd.bytes
  have hml : c.maxLocals = 2 := hml0
  have hown : s.vm.findClass "java/lang/Math" = some m.cls := findClass_of_methodNamed Bd.named
  have hnm := (name_of_methodNamed Bd.named Bd.method).1
  have X0 : Stand p l e ({ frames := 0, cells := 0, slots := 0, locals := 0 } : Room) s m #[(.int p1), (.int p2)] below meth c s₁ [] 0 0 := Stand.of_body Bd
  have e0 : s₁.heap = h0 := by rw [← hh, Bd.state]; rfl
  have N0 := Fr.nil n0
  have pre0 : ∀ t, Steps p.tables e below (s₁.setTop (mkF m 0 #[iv p1, iv p2] [])) t → Steps p.tables e below (s₁.setTop (entryFrame m #[(.int p1), (.int p2)] 2)) t := fun t k => castTop (ef_1 m p1 p2) k
  have pre2 : ∀ t, own_S p e below s₁ m 2 #[iv p1, iv p2] [(.int p2), (.int p1)] t → Steps p.tables e below (s₁.setTop (entryFrame m #[(.int p1), (.int p2)] 2)) t := fun t k => pre0 t (by
    show own_S p e below s₁ m 0 #[iv p1, iv p2] [] _
    refine XS.iloadN X0.here hx rfl (hb hby d1_0) rfl ?_
    show own_S p e below s₁ m 1 #[iv p1, iv p2] [(.int p1)] _
    refine XS.iloadN X0.here hx rfl (hb hby d1_1) rfl ?_
    exact k)
  by_cases hc2_1 : p2 < p1
  ·  -- pc 2 yes
    have pre3 : ∀ t, own_S p e below s₁ m 10 #[iv p1, iv p2] [(.int p2)] t → Steps p.tables e below (s₁.setTop (entryFrame m #[(.int p1), (.int p2)] 2)) t := fun t k => pre2 t (by
      show own_S p e below s₁ m 2 #[iv p1, iv p2] [(.int p2), (.int p1)] _
      refine XS.icmpYes X0.here hx rfl (pc0 := 2) (pc' := 9) rfl (hb hby d1_2) rfl (tlt hc2_1).2.2.1 (by decide) (by decide) ?_
      show own_S p e below s₁ m 9 #[iv p1, iv p2] [] _
      refine XS.iloadN X0.here hx rfl (hb hby d1_9) rfl ?_
      exact k)
    obtain ⟨fs, hr, hrun, hended, hW, hsame⟩ := X0.leave (v := some (.int p2)) (fun h => by rw [Bd.returns] at h; cases h)
    refine ⟨_, _, pre3 _ ?_, hrun, hended, _, _, rfl, ?_, ⟨_, rfl⟩, hW, hsame.mono (by decide) (by decide)⟩
    · show own_S p e below s₁ m 10 #[iv p1, iv p2] [(.int p2)] _
      exact retI X0 hx Bd.returns (hb hby d1_10) hr
    · show Q1 Z p1 p2 h0 n0 _ s₁.heap _
      rw [e0]
      exact ⟨_, rfl, N0, rfl⟩
  ·  -- pc 2 no
    have pre4 : ∀ t, own_S p e below s₁ m 10 #[iv p1, iv p2] [(.int p1)] t → Steps p.tables e below (s₁.setTop (entryFrame m #[(.int p1), (.int p2)] 2)) t := fun t k => pre2 t (by
      show own_S p e below s₁ m 2 #[iv p1, iv p2] [(.int p2), (.int p1)] _
      refine XS.icmpNo X0.here hx rfl (hb hby d1_2) rfl (flt hc2_1).2.2.1 ?_
      show own_S p e below s₁ m 5 #[iv p1, iv p2] [] _
      refine XS.iloadN X0.here hx rfl (hb hby d1_5) rfl ?_
      show own_S p e below s₁ m 6 #[iv p1, iv p2] [(.int p1)] _
      refine XS.goto X0.here hx rfl (pc0 := 6) (pc' := 10) rfl (hb hby d1_6) (by decide) (by decide) ?_
      exact k)
    obtain ⟨fs, hr, hrun, hended, hW, hsame⟩ := X0.leave (v := some (.int p1)) (fun h => by rw [Bd.returns] at h; cases h)
    refine ⟨_, _, pre4 _ ?_, hrun, hended, _, _, rfl, ?_, ⟨_, rfl⟩, hW, hsame.mono (by decide) (by decide)⟩
    · show own_S p e below s₁ m 10 #[iv p1, iv p2] [(.int p1)] _
      exact retI X0 hx Bd.returns (hb hby d1_10) hr
    · show Q1 Z p1 p2 h0 n0 _ s₁.heap _
      rw [e0]
      exact ⟨_, rfl, N0, rfl⟩
theorem pn_0 : plainName "com/example/bitstrata/bitstrata/RunContainer" = true := by first | (simp [plainName, overriddenIn]; done) | decide +kernel
theorem ef_2 (m : MethodId) (a1 : Addr) (a2 : Addr) (a3 : Addr) (p4 : Int32) (p5 : Int32) : entryFrame m #[(.ref a1), (.ref a2), (.ref a3), (.int p4), (.int p5)] 5 = mkF m 0 #[rv a1, rv a2, rv a3, iv p4, iv p5] [] := by first | (simp [entryFrame, mkF, argsToLocals, Value.category]; done) | rfl
def Q2 (Z : State) (a1 : Addr) (a2 : Addr) (a3 : Addr) (p4 : Int32) (p5 : Int32) (h0 : Heap) (n0 : Nat) (v : Option Value) (h : Heap) (L : List Loc) : Prop := v = none ∧ Fr n0 L ∧ Keep h0 h [a1] ∧ Exa Z h a1 "com/example/bitstrata/bitstrata/RunContainer" ∧ Fld Z h a1 "com/example/bitstrata/bitstrata/RunContainer" "starts" "[C" (.ref a2) ∧ Fld Z h a1 "com/example/bitstrata/bitstrata/RunContainer" "lasts" "[C" (.ref a3) ∧ Fld Z h a1 "com/example/bitstrata/bitstrata/RunContainer" "runCount" "I" (.int p4) ∧ Fld Z h a1 "com/example/bitstrata/bitstrata/RunContainer" "cardinality" "I" (.int p5)
theorem d2_0 : decode prog_11_method_1_code 0 = .ok (.aload_n 0, 1) := by decide +kernel
theorem d2_1 : decode prog_11_method_1_code 1 = .ok (.invokespecial 1, 3) := by decide +kernel
theorem d2_4 : decode prog_11_method_1_code 4 = .ok (.aload_n 0, 1) := by decide +kernel
theorem d2_5 : decode prog_11_method_1_code 5 = .ok (.aload_n 1, 1) := by decide +kernel
theorem d2_6 : decode prog_11_method_1_code 6 = .ok (.putfield 7, 3) := by decide +kernel
theorem d2_9 : decode prog_11_method_1_code 9 = .ok (.aload_n 0, 1) := by decide +kernel
theorem d2_10 : decode prog_11_method_1_code 10 = .ok (.aload_n 2, 1) := by decide +kernel
theorem d2_11 : decode prog_11_method_1_code 11 = .ok (.putfield 13, 3) := by decide +kernel
theorem d2_14 : decode prog_11_method_1_code 14 = .ok (.aload_n 0, 1) := by decide +kernel
theorem d2_15 : decode prog_11_method_1_code 15 = .ok (.iload_n 3, 1) := by decide +kernel
theorem d2_16 : decode prog_11_method_1_code 16 = .ok (.putfield 16, 3) := by decide +kernel
theorem d2_19 : decode prog_11_method_1_code 19 = .ok (.aload_n 0, 1) := by decide +kernel
theorem d2_20 : decode prog_11_method_1_code 20 = .ok (.iload 4, 2) := by decide +kernel
theorem d2_22 : decode prog_11_method_1_code 22 = .ok (.putfield 20, 3) := by decide +kernel
theorem d2_25 : decode prog_11_method_1_code 25 = .ok (.return_, 1) := by decide +kernel
set_option maxRecDepth 65536 in
set_option maxHeartbeats 40000000 in
theorem rm2 (l : Launch) (Z : State) (a0 : Array Value) (hw : ∀ d ∈ tables_1, d.before a0 Z = true) (ws : List Jvm.Cond) (a1 : Addr) (a2 : Addr) (a3 : Addr) (p4 : Int32) (p5 : Int32) (h0 : Heap) (n0 : Nat) (Z0 : n0 ≤ h0.size) (E_a1 : Exa Z h0 a1 "com/example/bitstrata/bitstrata/RunContainer") (g_a1 : n0 ≤ a1) (F_starts : Fld Z h0 a1 "com/example/bitstrata/bitstrata/RunContainer" "starts" "[C" .null) (F_lasts : Fld Z h0 a1 "com/example/bitstrata/bitstrata/RunContainer" "lasts" "[C" .null) (F_runCount : Fld Z h0 a1 "com/example/bitstrata/bitstrata/RunContainer" "runCount" "I" (.int (0 : Int32))) (F_cardinality : Fld Z h0 a1 "com/example/bitstrata/bitstrata/RunContainer" "cardinality" "I" (.int (0 : Int32))) :
    MetFree l (⟨"com/example/bitstrata/bitstrata/RunContainer", "<init>", "([C[CII)V"⟩ : MethodName) (head1 (Jvm.Cond.code (⟨"com/example/bitstrata/bitstrata/RunContainer", "<init>", "([C[CII)V"⟩ : MethodName) prog_11_method_1_code 5 none :: ws) ({ frames := 1, cells := 0, slots := 0, locals := 12 } : Room)) (fun a U => a = #[(.ref a1), (.ref a2), (.ref a3), (.int p4), (.int p5)] ∧ Z.Warmed39 U.vm ∧ U.heap = h0) (fun _ _ _ _ _ => True) (fun _ U o U' => ∃ v L, o = .returned v ∧ Q2 Z a1 a2 a3 p4 p5 h0 n0 v U'.heap L ∧ FrameEnd U o U' L ({ frames := 1, cells := 0, slots := 0, locals := 12 } : Room).cells ({ frames := 1, cells := 0, slots := 0, locals := 12 } : Room).slots) := by
  refine MetFree.of_bodySF (plainFor_of_name pn_0) hisR ?_
  intro p e s m args below meth c s₁ Bd hml0 hP hK
  obtain ⟨rfl, hZ, hh⟩ := hP
  have hx := Bd.exec
  have hby := Bd.bytes
  have hml : c.maxLocals = 5 := hml0
  have hown : s.vm.findClass "com/example/bitstrata/bitstrata/RunContainer" = some m.cls := findClass_of_methodNamed Bd.named
  have hnm := (name_of_methodNamed Bd.named Bd.method).1
  have X0 : Stand p l e ({ frames := 1, cells := 0, slots := 0, locals := 12 } : Room) s m #[(.ref a1), (.ref a2), (.ref a3), (.int p4), (.int p5)] below meth c s₁ [] 0 0 := Stand.of_body Bd
  have e0 : s₁.heap = h0 := by rw [← hh, Bd.state]; rfl
  have N0 := Fr.nil n0
  have pre0 : ∀ t, Steps p.tables e below (s₁.setTop (mkF m 0 #[rv a1, rv a2, rv a3, iv p4, iv p5] [])) t → Steps p.tables e below (s₁.setTop (entryFrame m #[(.ref a1), (.ref a2), (.ref a3), (.int p4), (.int p5)] 5)) t := fun t k => castTop (ef_2 m a1 a2 a3 p4 p5) k
  obtain ⟨T1, X1, e1, st1⟩ := initO X0 hx hZ hown (hw _ (List.mem_of_getElem? (i := 14) rfl)) (hw _ (List.mem_of_getElem? (i := 15) rfl)) (hw _ (List.mem_of_getElem? (i := 16) rfl)) e0 (g := (mkF m 1 #[rv a1, rv a2, rv a3, iv p4, iv p5] [(.ref a1)])) rfl (by rw [hml]; rfl) rfl (hb hby d2_1) (by decide) (W := 0) (by show 2 * 0 + _ ≤ _; exact Nat.le_of_eq rfl) (by decide)
  obtain ⟨T2, h2, X2, e2, W2, st2⟩ := putF X1 hx hZ hown (host := "") (Or.inl (hw _ (List.mem_of_getElem? (i := 17) rfl))) Via.refl e1 F_starts E_a1 (Or.inl (hw _ (List.mem_of_getElem? (i := 18) rfl))) (hw _ (List.mem_of_getElem? (i := 9) rfl)) (ty := (.array .char)) (by decide) rfl rfl (g := (mkF m 6 #[rv a1, rv a2, rv a3, iv p4, iv p5] [(.ref a2), (.ref a1)])) rfl rfl (hb hby d2_6)
  have Fw2 := F_starts.same W2
  have N2 := Fr.snoc X2 N0 g_a1
  have Fn_3 := (F_lasts.other W2 (Or.inr (slot_ne (Or.inl (hw _ (List.mem_of_getElem? (i := 20) rfl))) (Or.inl (hw _ (List.mem_of_getElem? (i := 18) rfl))) (by decide) (t := (.array .char)) (t' := (.array .char)) (by decide) (by decide))))
  have En_4 := (E_a1.wr W2)
  obtain ⟨T5, h5, X5, e5, W5, st5⟩ := putF X2 hx hZ hown (host := "") (Or.inl (hw _ (List.mem_of_getElem? (i := 19) rfl))) Via.refl e2 Fn_3 En_4 (Or.inl (hw _ (List.mem_of_getElem? (i := 20) rfl))) (hw _ (List.mem_of_getElem? (i := 9) rfl)) (ty := (.array .char)) (by decide) rfl rfl (g := (mkF m 11 #[rv a1, rv a2, rv a3, iv p4, iv p5] [(.ref a3), (.ref a1)])) rfl rfl (hb hby d2_11)
  have Fw5 := Fn_3.same W5
  have N5 := Fr.snoc X5 N2 g_a1
  have Fn_6 := ((F_runCount.other W2 (Or.inr (slot_ne (Or.inl (hw _ (List.mem_of_getElem? (i := 22) rfl))) (Or.inl (hw _ (List.mem_of_getElem? (i := 18) rfl))) (by decide) (t := .int) (t' := (.array .char)) (by decide) (by decide)))).other W5 (Or.inr (slot_ne (Or.inl (hw _ (List.mem_of_getElem? (i := 22) rfl))) (Or.inl (hw _ (List.mem_of_getElem? (i := 20) rfl))) (by decide) (t := .int) (t' := (.array .char)) (by decide) (by decide))))
  have En_7 := (En_4.wr W5)
  obtain ⟨T8, h8, X8, e8, W8, st8⟩ := putF X5 hx hZ hown (host := "") (Or.inl (hw _ (List.mem_of_getElem? (i := 21) rfl))) Via.refl e5 Fn_6 En_7 (Or.inl (hw _ (List.mem_of_getElem? (i := 22) rfl))) (hw _ (List.mem_of_getElem? (i := 9) rfl)) (ty := .int) (by decide) rfl rfl (g := (mkF m 16 #[rv a1, rv a2, rv a3, iv p4, iv p5] [(.int p4), (.ref a1)])) rfl rfl (hb hby d2_16)
  have Fw8 := Fn_6.same W8
  have N8 := Fr.snoc X8 N5 g_a1
  have Fn_9 := (((F_cardinality.other W2 (Or.inr (slot_ne (Or.inl (hw _ (List.mem_of_getElem? (i := 24) rfl))) (Or.inl (hw _ (List.mem_of_getElem? (i := 18) rfl))) (by decide) (t := .int) (t' := (.array .char)) (by decide) (by decide)))).other W5 (Or.inr (slot_ne (Or.inl (hw _ (List.mem_of_getElem? (i := 24) rfl))) (Or.inl (hw _ (List.mem_of_getElem? (i := 20) rfl))) (by decide) (t := .int) (t' := (.array .char)) (by decide) (by decide)))).other W8 (Or.inr (slot_ne (Or.inl (hw _ (List.mem_of_getElem? (i := 24) rfl))) (Or.inl (hw _ (List.mem_of_getElem? (i := 22) rfl))) (by decide) (t := .int) (t' := .int) (by decide) (by decide))))
  have En_10 := (En_7.wr W8)
  obtain ⟨T11, h11, X11, e11, W11, st11⟩ := putF X8 hx hZ hown (host := "") (Or.inl (hw _ (List.mem_of_getElem? (i := 23) rfl))) Via.refl e8 Fn_9 En_10 (Or.inl (hw _ (List.mem_of_getElem? (i := 24) rfl))) (hw _ (List.mem_of_getElem? (i := 9) rfl)) (ty := .int) (by decide) rfl rfl (g := (mkF m 22 #[rv a1, rv a2, rv a3, iv p4, iv p5] [(.int p5), (.ref a1)])) rfl rfl (hb hby d2_22)
  have Fw11 := Fn_9.same W11
  have N11 := Fr.snoc X11 N8 g_a1
  have pre12 : ∀ t, own_S p e below T11 m 25 #[rv a1, rv a2, rv a3, iv p4, iv p5] [] t → Steps p.tables e below (s₁.setTop (entryFrame m #[(.ref a1), (.ref a2), (.ref a3), (.int p4), (.int p5)] 5)) t := fun t k => pre0 t (by
    show own_S p e below s₁ m 0 #[rv a1, rv a2, rv a3, iv p4, iv p5] [] _
    refine XS.aloadN X0.here hx rfl (hb hby d2_0) rfl rfl ?_
    show own_S p e below s₁ m 1 #[rv a1, rv a2, rv a3, iv p4, iv p5] [(.ref a1)] _
    refine st1 _ ?_
    show own_S p e below T1 m 4 #[rv a1, rv a2, rv a3, iv p4, iv p5] [] _
    refine XS.aloadN X1.here hx rfl (hb hby d2_4) rfl rfl ?_
    show own_S p e below T1 m 5 #[rv a1, rv a2, rv a3, iv p4, iv p5] [(.ref a1)] _
    refine XS.aloadN X1.here hx rfl (hb hby d2_5) rfl rfl ?_
    show own_S p e below T1 m 6 #[rv a1, rv a2, rv a3, iv p4, iv p5] [(.ref a2), (.ref a1)] _
    refine st2 _ ?_
    show own_S p e below T2 m 9 #[rv a1, rv a2, rv a3, iv p4, iv p5] [] _
    refine XS.aloadN X2.here hx rfl (hb hby d2_9) rfl rfl ?_
    show own_S p e below T2 m 10 #[rv a1, rv a2, rv a3, iv p4, iv p5] [(.ref a1)] _
    refine XS.aloadN X2.here hx rfl (hb hby d2_10) rfl rfl ?_
    show own_S p e below T2 m 11 #[rv a1, rv a2, rv a3, iv p4, iv p5] [(.ref a3), (.ref a1)] _
    refine st5 _ ?_
    show own_S p e below T5 m 14 #[rv a1, rv a2, rv a3, iv p4, iv p5] [] _
    refine XS.aloadN X5.here hx rfl (hb hby d2_14) rfl rfl ?_
    show own_S p e below T5 m 15 #[rv a1, rv a2, rv a3, iv p4, iv p5] [(.ref a1)] _
    refine XS.iloadN X5.here hx rfl (hb hby d2_15) rfl ?_
    show own_S p e below T5 m 16 #[rv a1, rv a2, rv a3, iv p4, iv p5] [(.int p4), (.ref a1)] _
    refine st8 _ ?_
    show own_S p e below T8 m 19 #[rv a1, rv a2, rv a3, iv p4, iv p5] [] _
    refine XS.aloadN X8.here hx rfl (hb hby d2_19) rfl rfl ?_
    show own_S p e below T8 m 20 #[rv a1, rv a2, rv a3, iv p4, iv p5] [(.ref a1)] _
    refine XS.iload X8.here hx rfl (hb hby d2_20) rfl ?_
    show own_S p e below T8 m 22 #[rv a1, rv a2, rv a3, iv p4, iv p5] [(.int p5), (.ref a1)] _
    refine st11 _ ?_
    exact k)
  obtain ⟨fs, hr, hrun, hended, hW, hsame⟩ := X11.leave (v := none) (fun _ => rfl)
  refine ⟨_, _, pre12 _ ?_, hrun, hended, _, _, rfl, ?_, ⟨_, rfl⟩, hW, hsame.mono (by decide) (by decide)⟩
  · show own_S p e below T11 m 25 #[rv a1, rv a2, rv a3, iv p4, iv p5] [] _
    exact X11.returnOut hx Bd.returns (hb hby d2_25) hr
  · show Q2 Z a1 a2 a3 p4 p5 h0 n0 _ T11.heap _
    rw [e11]
    have Fn_13 := (((Fw2.other W5 (Or.inr (slot_ne (Or.inl (hw _ (List.mem_of_getElem? (i := 18) rfl))) (Or.inl (hw _ (List.mem_of_getElem? (i := 20) rfl))) (by decide) (t := (.array .char)) (t' := (.array .char)) (by decide) (by decide)))).other W8 (Or.inr (slot_ne (Or.inl (hw _ (List.mem_of_getElem? (i := 18) rfl))) (Or.inl (hw _ (List.mem_of_getElem? (i := 22) rfl))) (by decide) (t := (.array .char)) (t' := .int) (by decide) (by decide)))).other W11 (Or.inr (slot_ne (Or.inl (hw _ (List.mem_of_getElem? (i := 18) rfl))) (Or.inl (hw _ (List.mem_of_getElem? (i := 24) rfl))) (by decide) (t := (.array .char)) (t' := .int) (by decide) (by decide))))
    have Fn_14 := ((Fw5.other W8 (Or.inr (slot_ne (Or.inl (hw _ (List.mem_of_getElem? (i := 20) rfl))) (Or.inl (hw _ (List.mem_of_getElem? (i := 22) rfl))) (by decide) (t := (.array .char)) (t' := .int) (by decide) (by decide)))).other W11 (Or.inr (slot_ne (Or.inl (hw _ (List.mem_of_getElem? (i := 20) rfl))) (Or.inl (hw _ (List.mem_of_getElem? (i := 24) rfl))) (by decide) (t := (.array .char)) (t' := .int) (by decide) (by decide))))
    have Fn_15 := (Fw8.other W11 (Or.inr (slot_ne (Or.inl (hw _ (List.mem_of_getElem? (i := 22) rfl))) (Or.inl (hw _ (List.mem_of_getElem? (i := 24) rfl))) (by decide) (t := .int) (t' := .int) (by decide) (by decide))))
    have En_16 := (En_10.wr W11)
    exact ⟨rfl, N11, (((((Keep.refl h0 [a1]).wr W2 (Or.inl (List.mem_of_getElem? (i := 0) rfl))).wr W5 (Or.inl (List.mem_of_getElem? (i := 0) rfl))).wr W8 (Or.inl (List.mem_of_getElem? (i := 0) rfl))).wr W11 (Or.inl (List.mem_of_getElem? (i := 0) rfl))), En_16, Fn_13, Fn_14, Fn_15, Fw11⟩
theorem ef_4 (m : MethodId) (a1 : Addr) : entryFrame m #[(.ref a1)] 1 = mkF m 0 #[rv a1] [] := by first | (simp [entryFrame, mkF, argsToLocals, Value.category]; done) | rfl
def Q4 (Z : State) (a1 : Addr) (a2 : Addr) (p3 : Int32) (k : ClassId) (vs : List Value) (x : Int32) (h0 : Heap) (n0 : Nat) (v : Option Value) (h : Heap) (L : List Loc) : Prop := v = some (.int (nar .char x)) ∧ Fr n0 L ∧ h = h0
theorem d4_0 : decode prog_11_method_13_code 0 = .ok (.aload_n 0, 1) := by decide +kernel
theorem d4_1 : decode prog_11_method_13_code 1 = .ok (.getfield 13, 3) := by decide +kernel
theorem d4_4 : decode prog_11_method_13_code 4 = .ok (.aload_n 0, 1) := by decide +kernel
theorem d4_5 : decode prog_11_method_13_code 5 = .ok (.getfield 16, 3) := by decide +kernel
theorem d4_8 : decode prog_11_method_13_code 8 = .ok (.iconst 1, 1) := by decide +kernel
theorem d4_9 : decode prog_11_method_13_code 9 = .ok (.isub, 1) := by decide +kernel
theorem d4_10 : decode prog_11_method_13_code 10 = .ok (.caload, 1) := by decide +kernel
theorem d4_11 : decode prog_11_method_13_code 11 = .ok (.ireturn, 1) := by decide +kernel
set_option maxRecDepth 65536 in
set_option maxHeartbeats 40000000 in
theorem rm4 (l : Launch) (Z : State) (a0 : Array Value) (hw : ∀ d ∈ tables_1, d.before a0 Z = true) (ws : List Jvm.Cond) (a1 : Addr) (a2 : Addr) (p3 : Int32) (k : ClassId) (vs : List Value) (x : Int32) (h0 : Heap) (n0 : Nat) (Z0 : n0 ≤ h0.size) (F_lasts : Fld Z h0 a1 "com/example/bitstrata/bitstrata/RunContainer" "lasts" "[C" (.ref a2)) (F_runCount : Fld Z h0 a1 "com/example/bitstrata/bitstrata/RunContainer" "runCount" "I" (.int p3)) (V_a2 : Arv Z h0 a2 k .char (4 : Int32) vs (.int (0 : Int32))) (hin : ¬ (p3 - (1 : Int32)) < 0 ∧ (p3 - (1 : Int32)) < (4 : Int32)) (hat : vs.getD (p3 - (1 : Int32)).toNatClampNeg (.int (0 : Int32)) = .int x) :
    MetFree l (⟨"com/example/bitstrata/bitstrata/RunContainer", "last", "()C"⟩ : MethodName) (head1 (Jvm.Cond.code (⟨"com/example/bitstrata/bitstrata/RunContainer", "last", "()C"⟩ : MethodName) prog_11_method_13_code 1 (some .char) :: ws) ({ frames := 0, cells := 0, slots := 0, locals := 0 } : Room)) (fun a U => a = #[(.ref a1)] ∧ Z.Warmed39 U.vm ∧ U.heap = h0) (fun _ _ _ _ _ => True) (fun _ U o U' => ∃ v L, o = .returned v ∧ Q4 Z a1 a2 p3 k vs x h0 n0 v U'.heap L ∧ FrameEnd U o U' L ({ frames := 0, cells := 0, slots := 0, locals := 0 } : Room).cells ({ frames := 0, cells := 0, slots := 0, locals := 0 } : Room).slots) := by
  refine MetFree.of_bodySF (plainFor_of_name pn_0) hisR ?_
  intro p e s m args below meth c s₁ Bd hml0 hP hK
  obtain ⟨rfl, hZ, hh⟩ := hP
  have hx := Bd.exec
  have hby := Bd.bytes
  have hml : c.maxLocals = 1 := hml0
  have hown : s.vm.findClass "com/example/bitstrata/bitstrata/RunContainer" = some m.cls := findClass_of_methodNamed Bd.named
  have hnm := (name_of_methodNamed Bd.named Bd.method).1
  have X0 : Stand p l e ({ frames := 0, cells := 0, slots := 0, locals := 0 } : Room) s m #[(.ref a1)] below meth c s₁ [] 0 0 := Stand.of_body Bd
  have e0 : s₁.heap = h0 := by rw [← hh, Bd.state]; rfl
  have N0 := Fr.nil n0
  have pre0 : ∀ t, Steps p.tables e below (s₁.setTop (mkF m 0 #[rv a1] [])) t → Steps p.tables e below (s₁.setTop (entryFrame m #[(.ref a1)] 1)) t := fun t k => castTop (ef_4 m a1) k
  obtain ⟨T1, X1, e1, st1⟩ := getF X0 hx hZ hown (host := "") (Or.inl (hw _ (List.mem_of_getElem? (i := 19) rfl))) Via.refl e0 F_lasts (g := (mkF m 1 #[rv a1] [(.ref a1)])) rfl rfl (hb hby d4_1)
  obtain ⟨T2, X2, e2, st2⟩ := getF X1 hx hZ hown (host := "") (Or.inl (hw _ (List.mem_of_getElem? (i := 21) rfl))) Via.refl e1 F_runCount (g := (mkF m 5 #[rv a1] [(.ref a1), (.ref a2)])) rfl rfl (hb hby d4_5)
  obtain ⟨cl3, Ar3, q3, S3, M3, H3, G3⟩ := V_a2
  have hin3 : ¬ ((p3 - (1 : Int32)) < 0 ∨ cl3.slots.size ≤ ((p3 - (1 : Int32))).toNatClampNeg) := inb_of S3 hin
  have hat3 : cl3.slots[((p3 - (1 : Int32))).toNatClampNeg]? = some (.int x) := H3.at hin3 hat
  have pre4 : ∀ t, own_S p e below T2 m 11 #[rv a1] [(.int x)] t → Steps p.tables e below (s₁.setTop (entryFrame m #[(.ref a1)] 1)) t := fun t k => pre0 t (by
    show own_S p e below s₁ m 0 #[rv a1] [] _
    refine XS.aloadN X0.here hx rfl (hb hby d4_0) rfl rfl ?_
    show own_S p e below s₁ m 1 #[rv a1] [(.ref a1)] _
    refine st1 _ ?_
    show own_S p e below T1 m 4 #[rv a1] [(.ref a2)] _
    refine XS.aloadN X1.here hx rfl (hb hby d4_4) rfl rfl ?_
    show own_S p e below T1 m 5 #[rv a1] [(.ref a1), (.ref a2)] _
    refine st2 _ ?_
    show own_S p e below T2 m 8 #[rv a1] [(.int p3), (.ref a2)] _
    refine XS.iconst X2.here hx rfl (hb hby d4_8) ?_
    show own_S p e below T2 m 9 #[rv a1] [(.int (1 : Int32)), (.int p3), (.ref a2)] _
    refine XS.isub X2.here hx rfl (hb hby d4_9) rfl ?_
    show own_S p e below T2 m 10 #[rv a1] [(.int (p3 - (1 : Int32))), (.ref a2)] _
    refine X2.caload hx (j := (p3 - (1 : Int32))) (v := (.int x)) (by rw [e2]; exact Ar3.1) (State.isArrayOf_alike hZ.alike Ar3.2.1) Ar3.2.2 hin3 hat3 (g := (mkF m 10 #[rv a1] [(.int (p3 - (1 : Int32))), (.ref a2)])) rfl rfl (hb hby d4_10) _ ?_
    exact k)
  obtain ⟨fs, hr, hrun, hended, hW, hsame⟩ := X2.leave (v := some (.int (nar .char x))) (fun h => by rw [Bd.returns] at h; cases h)
  refine ⟨_, _, pre4 _ ?_, hrun, hended, _, _, rfl, ?_, ⟨_, rfl⟩, hW, hsame.mono (by decide) (by decide)⟩
  · show own_S p e below T2 m 11 #[rv a1] [(.int x)] _
    exact retN X2 hx (t := .char) Bd.returns (by simp) (hb hby d4_11) hr
  · show Q4 Z a1 a2 p3 k vs x h0 n0 _ T2.heap _
    rw [e2]
    exact ⟨rfl, N0, rfl⟩
theorem pn_1 : plainName "com/example/bitstrata/bitstrata/RunContainerLastPinLaw" = true := by first | (simp [plainName, overriddenIn]; done) | decide +kernel
theorem ef_0 (m : MethodId) (i1 : Int32) (j2 : Int64) (i3 : Int32) (i4 : Int32) : entryFrame m #[(.int i1), (.long j2), (.int i3), (.int i4)] maxLocals = mkF m 0 #[iv i1, .val (.long j2), .second, iv i3, iv i4, .unset, .unset, .unset, .unset, .unset, .unset, .unset, .unset, .unset, .unset, .unset, .unset] [] := by first | (simp [entryFrame, mkF, argsToLocals, Value.category, maxLocals]; done) | rfl
def Q0 (Z : State) (i1 : Int32) (j2 : Int64) (i3 : Int32) (i4 : Int32) (h0 : Heap) (n0 : Nat) (v : Option Value) (h : Heap) (L : List Loc) : Prop := v = some (.int 1) ∧ Fr n0 L
theorem pd_0 : parseMethodDescriptor "(II)I" = some ⟨[.int, .int], some .int⟩ := by decide +kernel
theorem pd_1 : parseMethodDescriptor "([C[CII)V" = some ⟨[(.array .char), (.array .char), .int, .int], none⟩ := by decide +kernel
theorem pd_2 : parseMethodDescriptor "()C" = some ⟨[], some .char⟩ := by decide +kernel
set_option maxRecDepth 65536 in
set_option maxHeartbeats 40000000 in
theorem rm0 (l : Launch) (Z : State) (a0 : Array Value) (hw : ∀ d ∈ tables_1, d.before a0 Z = true) (ws : List Jvm.Cond) (i1 : Int32) (j2 : Int64) (i3 : Int32) (i4 : Int32) (h0 : Heap) (n0 : Nat) (Z0 : n0 ≤ h0.size)  :
    MetFree l x (head1 (Jvm.Cond.code x code maxLocals ret :: ws) room_1) (fun a U => a = #[(.int i1), (.long j2), (.int i3), (.int i4)] ∧ Z.Warmed39 U.vm ∧ U.heap = h0) (fun _ _ _ _ _ => True) (fun _ U o U' => ∃ v L, o = .returned v ∧ Q0 Z i1 j2 i3 i4 h0 n0 v U'.heap L ∧ FrameEnd U o U' L room_1.cells room_1.slots) := by
  refine MetFree.of_bodySF (plainFor_of_name pn_1) hisR ?_
  intro p e s m args below meth c s₁ Bd hml0 hP hK
  obtain ⟨rfl, hZ, hh⟩ := hP
  have hx := Bd.exec
  have hby := Bd.bytes
  have hml : c.maxLocals = 17 := hml0
  have hown : s.vm.findClass "com/example/bitstrata/bitstrata/RunContainerLastPinLaw" = some m.cls := findClass_of_methodNamed Bd.named
  have hnm := (name_of_methodNamed Bd.named Bd.method).1
  have X0 : Stand p l e room_1 s m #[(.int i1), (.long j2), (.int i3), (.int i4)] below meth c s₁ [] 0 0 := Stand.of_body Bd
  have e0 : s₁.heap = h0 := by rw [← hh, Bd.state]; rfl
  have N0 := Fr.nil n0
  have pre0 : ∀ t, Steps p.tables e below (s₁.setTop (mkF m 0 #[iv i1, .val (.long j2), .second, iv i3, iv i4, .unset, .unset, .unset, .unset, .unset, .unset, .unset, .unset, .unset, .unset, .unset, .unset] [])) t → Steps p.tables e below (s₁.setTop (entryFrame m #[(.int i1), (.long j2), (.int i3), (.int i4)] maxLocals)) t := fun t k => castTop (ef_0 m i1 j2 i3 i4) k
  obtain ⟨_, _, ⟨T1, L1, k1, n1⟩, -, X1, ⟨Lc1, hQ1, l1, y1, z1⟩, st1⟩ := Jvm.LawKit.callS X0 hx (y := (⟨"java/lang/Math", "min", "(II)I"⟩ : MethodName)) hown (mvT hZ (hw _ (List.mem_of_getElem? (i := 2) rfl))) (mvT hZ (hw _ (List.mem_of_getElem? (i := 3) rfl))) (mvT hZ (hw _ (List.mem_of_getElem? (i := 4) rfl))) (mvT hZ (hw _ (List.mem_of_getElem? (i := 5) rfl))) (by decide) (backOf (W := 1) (rm1 l Z a0 hw [] ((j2 &&& (65535 : Int64)).toInt32) (i1 &&& (65535 : Int32)) h0 n0 Z0 ) hZ (hw _ (List.mem_of_getElem? (i := 5) rfl)) (hw _ (List.mem_of_getElem? (i := 4) rfl)) (by decide) (by decide)) (g := (mkF m 16 #[iv i1, .val (.long j2), .second, iv i3, iv i4, iv (i1 &&& (65535 : Int32)), .unset, .unset, .unset, .unset, .unset, .unset, .unset, .unset, .unset, .unset, .unset] [(.int (i1 &&& (65535 : Int32))), (.int ((j2 &&& (65535 : Int64)).toInt32)), (.int (i1 &&& (65535 : Int32)))])) rfl (by rw [hml]; rfl) (argsL := [(.int ((j2 &&& (65535 : Int64)).toInt32)), (.int (i1 &&& (65535 : Int32)))]) (rest := [(.int (i1 &&& (65535 : Int32)))]) (lenOf pd_0 rfl) rfl (by show 2 * 0 + _ ≤ _; exact Nat.le_of_eq rfl) (hb hby at_16) (fun _ _ => ⟨rfl, e0, (by decide : 0 + 0 ≤ _), (by decide : 0 + 0 ≤ _)⟩)
  dsimp only [Pt.U, Pt.locs, Pt.cells, Pt.slots] at X1 l1 y1 z1 st1 hQ1
  subst l1 y1 z1
  obtain ⟨b1, rfl, N1q, e1q⟩ := hQ1
  have N1 := Fr.app N0 N1q
  have e1 : T1.heap = h0 := e1q
  have pre2 : ∀ t, own_S p e below T1 m 33 #[iv i1, .val (.long j2), .second, iv i3, iv i4, iv (i1 &&& (65535 : Int32)), iv ((i1 &&& (65535 : Int32)) - b1), iv (((i4 &&& (2147483647 : Int32)) % (3 : Int32)) + (1 : Int32)), .unset, .unset, .unset, .unset, .unset, .unset, .unset, .unset, .unset] [] t → Steps p.tables e below (s₁.setTop (entryFrame m #[(.int i1), (.long j2), (.int i3), (.int i4)] maxLocals)) t := fun t k => pre0 t (by
    show own_S p e below s₁ m 0 #[iv i1, .val (.long j2), .second, iv i3, iv i4, .unset, .unset, .unset, .unset, .unset, .unset, .unset, .unset, .unset, .unset, .unset, .unset] [] _
    refine XS.iloadN X0.here hx rfl (hb hby at_0) rfl ?_
    show own_S p e below s₁ m 1 #[iv i1, .val (.long j2), .second, iv i3, iv i4, .unset, .unset, .unset, .unset, .unset, .unset, .unset, .unset, .unset, .unset, .unset, .unset] [(.int i1)] _
    refine X0.ldcInt hx hown (mvT hZ (hw _ (List.mem_of_getElem? (i := 0) rfl))) (g := (mkF m 1 #[iv i1, .val (.long j2), .second, iv i3, iv i4, .unset, .unset, .unset, .unset, .unset, .unset, .unset, .unset, .unset, .unset, .unset, .unset] [(.int i1)])) rfl (hb hby at_1) _ ?_
    show own_S p e below s₁ m 3 #[iv i1, .val (.long j2), .second, iv i3, iv i4, .unset, .unset, .unset, .unset, .unset, .unset, .unset, .unset, .unset, .unset, .unset, .unset] [(.int (65535 : Int32)), (.int i1)] _
    refine XS.iand X0.here hx rfl (hb hby at_3) rfl ?_
    show own_S p e below s₁ m 4 #[iv i1, .val (.long j2), .second, iv i3, iv i4, .unset, .unset, .unset, .unset, .unset, .unset, .unset, .unset, .unset, .unset, .unset, .unset] [(.int (i1 &&& (65535 : Int32)))] _
    refine XS.istore X0.here hx rfl (hb hby at_4) rfl (l' := #[iv i1, .val (.long j2), .second, iv i3, iv i4, iv (i1 &&& (65535 : Int32)), .unset, .unset, .unset, .unset, .unset, .unset, .unset, .unset, .unset, .unset, .unset]) rfl ?_
    show own_S p e below s₁ m 6 #[iv i1, .val (.long j2), .second, iv i3, iv i4, iv (i1 &&& (65535 : Int32)), .unset, .unset, .unset, .unset, .unset, .unset, .unset, .unset, .unset, .unset, .unset] [] _
    refine XS.iload X0.here hx rfl (hb hby at_6) rfl ?_
    show own_S p e below s₁ m 8 #[iv i1, .val (.long j2), .second, iv i3, iv i4, iv (i1 &&& (65535 : Int32)), .unset, .unset, .unset, .unset, .unset, .unset, .unset, .unset, .unset, .unset, .unset] [(.int (i1 &&& (65535 : Int32)))] _
    refine XS.lloadN X0.here hx rfl (hb hby at_8) rfl ?_
    show own_S p e below s₁ m 9 #[iv i1, .val (.long j2), .second, iv i3, iv i4, iv (i1 &&& (65535 : Int32)), .unset, .unset, .unset, .unset, .unset, .unset, .unset, .unset, .unset, .unset, .unset] [(.long j2), (.int (i1 &&& (65535 : Int32)))] _
    refine X0.ldc2Long hx hown (mvT hZ (hw _ (List.mem_of_getElem? (i := 1) rfl))) (g := (mkF m 9 #[iv i1, .val (.long j2), .second, iv i3, iv i4, iv (i1 &&& (65535 : Int32)), .unset, .unset, .unset, .unset, .unset, .unset, .unset, .unset, .unset, .unset, .unset] [(.long j2), (.int (i1 &&& (65535 : Int32)))])) rfl (hb hby at_9) _ ?_
    show own_S p e below s₁ m 12 #[iv i1, .val (.long j2), .second, iv i3, iv i4, iv (i1 &&& (65535 : Int32)), .unset, .unset, .unset, .unset, .unset, .unset, .unset, .unset, .unset, .unset, .unset] [(.long (65535 : Int64)), (.long j2), (.int (i1 &&& (65535 : Int32)))] _
    refine XS.land X0.here hx rfl (hb hby at_12) rfl ?_
    show own_S p e below s₁ m 13 #[iv i1, .val (.long j2), .second, iv i3, iv i4, iv (i1 &&& (65535 : Int32)), .unset, .unset, .unset, .unset, .unset, .unset, .unset, .unset, .unset, .unset, .unset] [(.long (j2 &&& (65535 : Int64))), (.int (i1 &&& (65535 : Int32)))] _
    refine XS.l2i X0.here hx rfl (hb hby at_13) rfl ?_
    show own_S p e below s₁ m 14 #[iv i1, .val (.long j2), .second, iv i3, iv i4, iv (i1 &&& (65535 : Int32)), .unset, .unset, .unset, .unset, .unset, .unset, .unset, .unset, .unset, .unset, .unset] [(.int ((j2 &&& (65535 : Int64)).toInt32)), (.int (i1 &&& (65535 : Int32)))] _
    refine XS.iload X0.here hx rfl (hb hby at_14) rfl ?_
    show own_S p e below s₁ m 16 #[iv i1, .val (.long j2), .second, iv i3, iv i4, iv (i1 &&& (65535 : Int32)), .unset, .unset, .unset, .unset, .unset, .unset, .unset, .unset, .unset, .unset, .unset] [(.int (i1 &&& (65535 : Int32))), (.int ((j2 &&& (65535 : Int64)).toInt32)), (.int (i1 &&& (65535 : Int32)))] _
    refine st1 _ ?_
    show own_S p e below T1 m 19 #[iv i1, .val (.long j2), .second, iv i3, iv i4, iv (i1 &&& (65535 : Int32)), .unset, .unset, .unset, .unset, .unset, .unset, .unset, .unset, .unset, .unset, .unset] [(.int b1), (.int (i1 &&& (65535 : Int32)))] _
    refine XS.isub X1.here hx rfl (hb hby at_19) rfl ?_
    show own_S p e below T1 m 20 #[iv i1, .val (.long j2), .second, iv i3, iv i4, iv (i1 &&& (65535 : Int32)), .unset, .unset, .unset, .unset, .unset, .unset, .unset, .unset, .unset, .unset, .unset] [(.int ((i1 &&& (65535 : Int32)) - b1))] _
    refine XS.istore X1.here hx rfl (hb hby at_20) rfl (l' := #[iv i1, .val (.long j2), .second, iv i3, iv i4, iv (i1 &&& (65535 : Int32)), iv ((i1 &&& (65535 : Int32)) - b1), .unset, .unset, .unset, .unset, .unset, .unset, .unset, .unset, .unset, .unset]) rfl ?_
    show own_S p e below T1 m 22 #[iv i1, .val (.long j2), .second, iv i3, iv i4, iv (i1 &&& (65535 : Int32)), iv ((i1 &&& (65535 : Int32)) - b1), .unset, .unset, .unset, .unset, .unset, .unset, .unset, .unset, .unset, .unset] [] _
    refine XS.iload X1.here hx rfl (hb hby at_22) rfl ?_
    show own_S p e below T1 m 24 #[iv i1, .val (.long j2), .second, iv i3, iv i4, iv (i1 &&& (65535 : Int32)), iv ((i1 &&& (65535 : Int32)) - b1), .unset, .unset, .unset, .unset, .unset, .unset, .unset, .unset, .unset, .unset] [(.int i4)] _
    refine X1.ldcInt hx hown (mvT hZ (hw _ (List.mem_of_getElem? (i := 6) rfl))) (g := (mkF m 24 #[iv i1, .val (.long j2), .second, iv i3, iv i4, iv (i1 &&& (65535 : Int32)), iv ((i1 &&& (65535 : Int32)) - b1), .unset, .unset, .unset, .unset, .unset, .unset, .unset, .unset, .unset, .unset] [(.int i4)])) rfl (hb hby at_24) _ ?_
    show own_S p e below T1 m 26 #[iv i1, .val (.long j2), .second, iv i3, iv i4, iv (i1 &&& (65535 : Int32)), iv ((i1 &&& (65535 : Int32)) - b1), .unset, .unset, .unset, .unset, .unset, .unset, .unset, .unset, .unset, .unset] [(.int (2147483647 : Int32)), (.int i4)] _
    refine XS.iand X1.here hx rfl (hb hby at_26) rfl ?_
    show own_S p e below T1 m 27 #[iv i1, .val (.long j2), .second, iv i3, iv i4, iv (i1 &&& (65535 : Int32)), iv ((i1 &&& (65535 : Int32)) - b1), .unset, .unset, .unset, .unset, .unset, .unset, .unset, .unset, .unset, .unset] [(.int (i4 &&& (2147483647 : Int32)))] _
    refine XS.iconst X1.here hx rfl (hb hby at_27) ?_
    show own_S p e below T1 m 28 #[iv i1, .val (.long j2), .second, iv i3, iv i4, iv (i1 &&& (65535 : Int32)), iv ((i1 &&& (65535 : Int32)) - b1), .unset, .unset, .unset, .unset, .unset, .unset, .unset, .unset, .unset, .unset] [(.int (3 : Int32)), (.int (i4 &&& (2147483647 : Int32)))] _
    refine iremM X1 hx rfl (hb hby at_28) rfl (by decide) ?_
    show own_S p e below T1 m 29 #[iv i1, .val (.long j2), .second, iv i3, iv i4, iv (i1 &&& (65535 : Int32)), iv ((i1 &&& (65535 : Int32)) - b1), .unset, .unset, .unset, .unset, .unset, .unset, .unset, .unset, .unset, .unset] [(.int ((i4 &&& (2147483647 : Int32)) % (3 : Int32)))] _
    refine XS.iconst X1.here hx rfl (hb hby at_29) ?_
    show own_S p e below T1 m 30 #[iv i1, .val (.long j2), .second, iv i3, iv i4, iv (i1 &&& (65535 : Int32)), iv ((i1 &&& (65535 : Int32)) - b1), .unset, .unset, .unset, .unset, .unset, .unset, .unset, .unset, .unset, .unset] [(.int (1 : Int32)), (.int ((i4 &&& (2147483647 : Int32)) % (3 : Int32)))] _
    refine XS.iadd X1.here hx rfl (hb hby at_30) rfl ?_
    show own_S p e below T1 m 31 #[iv i1, .val (.long j2), .second, iv i3, iv i4, iv (i1 &&& (65535 : Int32)), iv ((i1 &&& (65535 : Int32)) - b1), .unset, .unset, .unset, .unset, .unset, .unset, .unset, .unset, .unset, .unset] [(.int (((i4 &&& (2147483647 : Int32)) % (3 : Int32)) + (1 : Int32)))] _
    refine XS.istore X1.here hx rfl (hb hby at_31) rfl (l' := #[iv i1, .val (.long j2), .second, iv i3, iv i4, iv (i1 &&& (65535 : Int32)), iv ((i1 &&& (65535 : Int32)) - b1), iv (((i4 &&& (2147483647 : Int32)) % (3 : Int32)) + (1 : Int32)), .unset, .unset, .unset, .unset, .unset, .unset, .unset, .unset, .unset]) rfl ?_
    exact k)
  have hn0 := own_n i4
  obtain ⟨nv, env⟩ : ∃ z, z = (((i4 &&& (2147483647 : Int32)) % (3 : Int32)) + (1 : Int32)) := ⟨_, rfl⟩
  rw [← env] at hn0 pre2
  obtain ⟨l2, el2⟩ : ∃ z, z = (i1 &&& (65535 : Int32)) := ⟨_, rfl⟩
  rw [← el2] at pre2
  obtain ⟨n1, h_n1, prej3⟩ : ∃ n1 : Int32, (n1 = 1 ∨ n1 = 2 ∨ n1 = 3) ∧ ∀ t, own_S p e below T1 m 60 #[iv i1, .val (.long j2), .second, iv i3, iv i4, iv l2, iv (l2 - b1), iv n1, iv (0 : Int32), iv (0 : Int32), iv (0 : Int32), iv (0 : Int32), .unset, .unset, .unset, .unset, .unset] [] t → Steps p.tables e below (s₁.setTop (entryFrame m #[(.int i1), (.long j2), (.int i3), (.int i4)] maxLocals)) t := by
    have pre5 : ∀ t, own_S p e below T1 m 36 #[iv i1, .val (.long j2), .second, iv i3, iv i4, iv l2, iv (l2 - b1), iv nv, .unset, .unset, .unset, .unset, .unset, .unset, .unset, .unset, .unset] [(.int (2 : Int32)), (.int nv)] t → Steps p.tables e below (s₁.setTop (entryFrame m #[(.int i1), (.long j2), (.int i3), (.int i4)] maxLocals)) t := fun t k => pre2 t (by
      show own_S p e below T1 m 33 #[iv i1, .val (.long j2), .second, iv i3, iv i4, iv l2, iv (l2 - b1), iv nv, .unset, .unset, .unset, .unset, .unset, .unset, .unset, .unset, .unset] [] _
      refine XS.iload X1.here hx rfl (hb hby at_33) rfl ?_
      show own_S p e below T1 m 35 #[iv i1, .val (.long j2), .second, iv i3, iv i4, iv l2, iv (l2 - b1), iv nv, .unset, .unset, .unset, .unset, .unset, .unset, .unset, .unset, .unset] [(.int nv)] _
      refine XS.iconst X1.here hx rfl (hb hby at_35) ?_
      exact k)
    by_cases hc36_4 : nv < (2 : Int32)
    ·  -- pc 36 yes
      have pre6 : ∀ t, own_S p e below T1 m 60 #[iv i1, .val (.long j2), .second, iv i3, iv i4, iv l2, iv (l2 - b1), iv nv, iv (0 : Int32), iv (0 : Int32), iv (0 : Int32), iv (0 : Int32), .unset, .unset, .unset, .unset, .unset] [] t → Steps p.tables e below (s₁.setTop (entryFrame m #[(.int i1), (.long j2), (.int i3), (.int i4)] maxLocals)) t := fun t k => pre5 t (by
        show own_S p e below T1 m 36 #[iv i1, .val (.long j2), .second, iv i3, iv i4, iv l2, iv (l2 - b1), iv nv, .unset, .unset, .unset, .unset, .unset, .unset, .unset, .unset, .unset] [(.int (2 : Int32)), (.int nv)] _
        refine XS.icmpYes X1.here hx rfl (pc0 := 36) (pc' := 48) rfl (hb hby at_36) rfl (tlt hc36_4).1 (by decide) (by decide) ?_
        show own_S p e below T1 m 48 #[iv i1, .val (.long j2), .second, iv i3, iv i4, iv l2, iv (l2 - b1), iv nv, .unset, .unset, .unset, .unset, .unset, .unset, .unset, .unset, .unset] [] _
        refine XS.iconst X1.here hx rfl (hb hby at_48) ?_
        show own_S p e below T1 m 49 #[iv i1, .val (.long j2), .second, iv i3, iv i4, iv l2, iv (l2 - b1), iv nv, .unset, .unset, .unset, .unset, .unset, .unset, .unset, .unset, .unset] [(.int (0 : Int32))] _
        refine XS.istore X1.here hx rfl (hb hby at_49) rfl (l' := #[iv i1, .val (.long j2), .second, iv i3, iv i4, iv l2, iv (l2 - b1), iv nv, iv (0 : Int32), .unset, .unset, .unset, .unset, .unset, .unset, .unset, .unset]) rfl ?_
        show own_S p e below T1 m 51 #[iv i1, .val (.long j2), .second, iv i3, iv i4, iv l2, iv (l2 - b1), iv nv, iv (0 : Int32), .unset, .unset, .unset, .unset, .unset, .unset, .unset, .unset] [] _
        refine XS.iconst X1.here hx rfl (hb hby at_51) ?_
        show own_S p e below T1 m 52 #[iv i1, .val (.long j2), .second, iv i3, iv i4, iv l2, iv (l2 - b1), iv nv, iv (0 : Int32), .unset, .unset, .unset, .unset, .unset, .unset, .unset, .unset] [(.int (0 : Int32))] _
        refine XS.istore X1.here hx rfl (hb hby at_52) rfl (l' := #[iv i1, .val (.long j2), .second, iv i3, iv i4, iv l2, iv (l2 - b1), iv nv, iv (0 : Int32), iv (0 : Int32), .unset, .unset, .unset, .unset, .unset, .unset, .unset]) rfl ?_
        show own_S p e below T1 m 54 #[iv i1, .val (.long j2), .second, iv i3, iv i4, iv l2, iv (l2 - b1), iv nv, iv (0 : Int32), iv (0 : Int32), .unset, .unset, .unset, .unset, .unset, .unset, .unset] [] _
        refine XS.iconst X1.here hx rfl (hb hby at_54) ?_
        show own_S p e below T1 m 55 #[iv i1, .val (.long j2), .second, iv i3, iv i4, iv l2, iv (l2 - b1), iv nv, iv (0 : Int32), iv (0 : Int32), .unset, .unset, .unset, .unset, .unset, .unset, .unset] [(.int (0 : Int32))] _
        refine XS.istore X1.here hx rfl (hb hby at_55) rfl (l' := #[iv i1, .val (.long j2), .second, iv i3, iv i4, iv l2, iv (l2 - b1), iv nv, iv (0 : Int32), iv (0 : Int32), iv (0 : Int32), .unset, .unset, .unset, .unset, .unset, .unset]) rfl ?_
        show own_S p e below T1 m 57 #[iv i1, .val (.long j2), .second, iv i3, iv i4, iv l2, iv (l2 - b1), iv nv, iv (0 : Int32), iv (0 : Int32), iv (0 : Int32), .unset, .unset, .unset, .unset, .unset, .unset] [] _
        refine XS.iconst X1.here hx rfl (hb hby at_57) ?_
        show own_S p e below T1 m 58 #[iv i1, .val (.long j2), .second, iv i3, iv i4, iv l2, iv (l2 - b1), iv nv, iv (0 : Int32), iv (0 : Int32), iv (0 : Int32), .unset, .unset, .unset, .unset, .unset, .unset] [(.int (0 : Int32))] _
        refine XS.istore X1.here hx rfl (hb hby at_58) rfl (l' := #[iv i1, .val (.long j2), .second, iv i3, iv i4, iv l2, iv (l2 - b1), iv nv, iv (0 : Int32), iv (0 : Int32), iv (0 : Int32), iv (0 : Int32), .unset, .unset, .unset, .unset, .unset]) rfl ?_
        exact k)
      exact ⟨nv, hn0, pre6⟩
    ·  -- pc 36 no
      have pre8 : ∀ t, own_S p e below T1 m 42 #[iv i1, .val (.long j2), .second, iv i3, iv i4, iv l2, iv (l2 - b1), iv nv, .unset, .unset, .unset, .unset, .unset, .unset, .unset, .unset, .unset] [(.int (2 : Int32)), (.int (l2 - b1))] t → Steps p.tables e below (s₁.setTop (entryFrame m #[(.int i1), (.long j2), (.int i3), (.int i4)] maxLocals)) t := fun t k => pre5 t (by
        show own_S p e below T1 m 36 #[iv i1, .val (.long j2), .second, iv i3, iv i4, iv l2, iv (l2 - b1), iv nv, .unset, .unset, .unset, .unset, .unset, .unset, .unset, .unset, .unset] [(.int (2 : Int32)), (.int nv)] _
        refine XS.icmpNo X1.here hx rfl (hb hby at_36) rfl (flt hc36_4).1 ?_
        show own_S p e below T1 m 39 #[iv i1, .val (.long j2), .second, iv i3, iv i4, iv l2, iv (l2 - b1), iv nv, .unset, .unset, .unset, .unset, .unset, .unset, .unset, .unset, .unset] [] _
        refine XS.iload X1.here hx rfl (hb hby at_39) rfl ?_
        show own_S p e below T1 m 41 #[iv i1, .val (.long j2), .second, iv i3, iv i4, iv l2, iv (l2 - b1), iv nv, .unset, .unset, .unset, .unset, .unset, .unset, .unset, .unset, .unset] [(.int (l2 - b1))] _
        refine XS.iconst X1.here hx rfl (hb hby at_41) ?_
        exact k)
      by_cases hc42_7 : (l2 - b1) < (2 : Int32)
      ·  -- pc 42 yes
        have pre9 : ∀ t, own_S p e below T1 m 60 #[iv i1, .val (.long j2), .second, iv i3, iv i4, iv l2, iv (l2 - b1), iv (1 : Int32), iv (0 : Int32), iv (0 : Int32), iv (0 : Int32), iv (0 : Int32), .unset, .unset, .unset, .unset, .unset] [] t → Steps p.tables e below (s₁.setTop (entryFrame m #[(.int i1), (.long j2), (.int i3), (.int i4)] maxLocals)) t := fun t k => pre8 t (by
          show own_S p e below T1 m 42 #[iv i1, .val (.long j2), .second, iv i3, iv i4, iv l2, iv (l2 - b1), iv nv, .unset, .unset, .unset, .unset, .unset, .unset, .unset, .unset, .unset] [(.int (2 : Int32)), (.int (l2 - b1))] _
          refine XS.icmpNo X1.here hx rfl (hb hby at_42) rfl (tlt hc42_7).2.1 ?_
          show own_S p e below T1 m 45 #[iv i1, .val (.long j2), .second, iv i3, iv i4, iv l2, iv (l2 - b1), iv nv, .unset, .unset, .unset, .unset, .unset, .unset, .unset, .unset, .unset] [] _
          refine XS.iconst X1.here hx rfl (hb hby at_45) ?_
          show own_S p e below T1 m 46 #[iv i1, .val (.long j2), .second, iv i3, iv i4, iv l2, iv (l2 - b1), iv nv, .unset, .unset, .unset, .unset, .unset, .unset, .unset, .unset, .unset] [(.int (1 : Int32))] _
          refine XS.istore X1.here hx rfl (hb hby at_46) rfl (l' := #[iv i1, .val (.long j2), .second, iv i3, iv i4, iv l2, iv (l2 - b1), iv (1 : Int32), .unset, .unset, .unset, .unset, .unset, .unset, .unset, .unset, .unset]) rfl ?_
          show own_S p e below T1 m 48 #[iv i1, .val (.long j2), .second, iv i3, iv i4, iv l2, iv (l2 - b1), iv (1 : Int32), .unset, .unset, .unset, .unset, .unset, .unset, .unset, .unset, .unset] [] _
          refine XS.iconst X1.here hx rfl (hb hby at_48) ?_
          show own_S p e below T1 m 49 #[iv i1, .val (.long j2), .second, iv i3, iv i4, iv l2, iv (l2 - b1), iv (1 : Int32), .unset, .unset, .unset, .unset, .unset, .unset, .unset, .unset, .unset] [(.int (0 : Int32))] _
          refine XS.istore X1.here hx rfl (hb hby at_49) rfl (l' := #[iv i1, .val (.long j2), .second, iv i3, iv i4, iv l2, iv (l2 - b1), iv (1 : Int32), iv (0 : Int32), .unset, .unset, .unset, .unset, .unset, .unset, .unset, .unset]) rfl ?_
          show own_S p e below T1 m 51 #[iv i1, .val (.long j2), .second, iv i3, iv i4, iv l2, iv (l2 - b1), iv (1 : Int32), iv (0 : Int32), .unset, .unset, .unset, .unset, .unset, .unset, .unset, .unset] [] _
          refine XS.iconst X1.here hx rfl (hb hby at_51) ?_
          show own_S p e below T1 m 52 #[iv i1, .val (.long j2), .second, iv i3, iv i4, iv l2, iv (l2 - b1), iv (1 : Int32), iv (0 : Int32), .unset, .unset, .unset, .unset, .unset, .unset, .unset, .unset] [(.int (0 : Int32))] _
          refine XS.istore X1.here hx rfl (hb hby at_52) rfl (l' := #[iv i1, .val (.long j2), .second, iv i3, iv i4, iv l2, iv (l2 - b1), iv (1 : Int32), iv (0 : Int32), iv (0 : Int32), .unset, .unset, .unset, .unset, .unset, .unset, .unset]) rfl ?_
          show own_S p e below T1 m 54 #[iv i1, .val (.long j2), .second, iv i3, iv i4, iv l2, iv (l2 - b1), iv (1 : Int32), iv (0 : Int32), iv (0 : Int32), .unset, .unset, .unset, .unset, .unset, .unset, .unset] [] _
          refine XS.iconst X1.here hx rfl (hb hby at_54) ?_
          show own_S p e below T1 m 55 #[iv i1, .val (.long j2), .second, iv i3, iv i4, iv l2, iv (l2 - b1), iv (1 : Int32), iv (0 : Int32), iv (0 : Int32), .unset, .unset, .unset, .unset, .unset, .unset, .unset] [(.int (0 : Int32))] _
          refine XS.istore X1.here hx rfl (hb hby at_55) rfl (l' := #[iv i1, .val (.long j2), .second, iv i3, iv i4, iv l2, iv (l2 - b1), iv (1 : Int32), iv (0 : Int32), iv (0 : Int32), iv (0 : Int32), .unset, .unset, .unset, .unset, .unset, .unset]) rfl ?_
          show own_S p e below T1 m 57 #[iv i1, .val (.long j2), .second, iv i3, iv i4, iv l2, iv (l2 - b1), iv (1 : Int32), iv (0 : Int32), iv (0 : Int32), iv (0 : Int32), .unset, .unset, .unset, .unset, .unset, .unset] [] _
          refine XS.iconst X1.here hx rfl (hb hby at_57) ?_
          show own_S p e below T1 m 58 #[iv i1, .val (.long j2), .second, iv i3, iv i4, iv l2, iv (l2 - b1), iv (1 : Int32), iv (0 : Int32), iv (0 : Int32), iv (0 : Int32), .unset, .unset, .unset, .unset, .unset, .unset] [(.int (0 : Int32))] _
          refine XS.istore X1.here hx rfl (hb hby at_58) rfl (l' := #[iv i1, .val (.long j2), .second, iv i3, iv i4, iv l2, iv (l2 - b1), iv (1 : Int32), iv (0 : Int32), iv (0 : Int32), iv (0 : Int32), iv (0 : Int32), .unset, .unset, .unset, .unset, .unset]) rfl ?_
          exact k)
        exact ⟨(1 : Int32), (Or.inl rfl), pre9⟩
      ·  -- pc 42 no
        have pre10 : ∀ t, own_S p e below T1 m 60 #[iv i1, .val (.long j2), .second, iv i3, iv i4, iv l2, iv (l2 - b1), iv nv, iv (0 : Int32), iv (0 : Int32), iv (0 : Int32), iv (0 : Int32), .unset, .unset, .unset, .unset, .unset] [] t → Steps p.tables e below (s₁.setTop (entryFrame m #[(.int i1), (.long j2), (.int i3), (.int i4)] maxLocals)) t := fun t k => pre8 t (by
          show own_S p e below T1 m 42 #[iv i1, .val (.long j2), .second, iv i3, iv i4, iv l2, iv (l2 - b1), iv nv, .unset, .unset, .unset, .unset, .unset, .unset, .unset, .unset, .unset] [(.int (2 : Int32)), (.int (l2 - b1))] _
          refine XS.icmpYes X1.here hx rfl (pc0 := 42) (pc' := 48) rfl (hb hby at_42) rfl (flt hc42_7).2.1 (by decide) (by decide) ?_
          show own_S p e below T1 m 48 #[iv i1, .val (.long j2), .second, iv i3, iv i4, iv l2, iv (l2 - b1), iv nv, .unset, .unset, .unset, .unset, .unset, .unset, .unset, .unset, .unset] [] _
          refine XS.iconst X1.here hx rfl (hb hby at_48) ?_
          show own_S p e below T1 m 49 #[iv i1, .val (.long j2), .second, iv i3, iv i4, iv l2, iv (l2 - b1), iv nv, .unset, .unset, .unset, .unset, .unset, .unset, .unset, .unset, .unset] [(.int (0 : Int32))] _
          refine XS.istore X1.here hx rfl (hb hby at_49) rfl (l' := #[iv i1, .val (.long j2), .second, iv i3, iv i4, iv l2, iv (l2 - b1), iv nv, iv (0 : Int32), .unset, .unset, .unset, .unset, .unset, .unset, .unset, .unset]) rfl ?_
          show own_S p e below T1 m 51 #[iv i1, .val (.long j2), .second, iv i3, iv i4, iv l2, iv (l2 - b1), iv nv, iv (0 : Int32), .unset, .unset, .unset, .unset, .unset, .unset, .unset, .unset] [] _
          refine XS.iconst X1.here hx rfl (hb hby at_51) ?_
          show own_S p e below T1 m 52 #[iv i1, .val (.long j2), .second, iv i3, iv i4, iv l2, iv (l2 - b1), iv nv, iv (0 : Int32), .unset, .unset, .unset, .unset, .unset, .unset, .unset, .unset] [(.int (0 : Int32))] _
          refine XS.istore X1.here hx rfl (hb hby at_52) rfl (l' := #[iv i1, .val (.long j2), .second, iv i3, iv i4, iv l2, iv (l2 - b1), iv nv, iv (0 : Int32), iv (0 : Int32), .unset, .unset, .unset, .unset, .unset, .unset, .unset]) rfl ?_
          show own_S p e below T1 m 54 #[iv i1, .val (.long j2), .second, iv i3, iv i4, iv l2, iv (l2 - b1), iv nv, iv (0 : Int32), iv (0 : Int32), .unset, .unset, .unset, .unset, .unset, .unset, .unset] [] _
          refine XS.iconst X1.here hx rfl (hb hby at_54) ?_
          show own_S p e below T1 m 55 #[iv i1, .val (.long j2), .second, iv i3, iv i4, iv l2, iv (l2 - b1), iv nv, iv (0 : Int32), iv (0 : Int32), .unset, .unset, .unset, .unset, .unset, .unset, .unset] [(.int (0 : Int32))] _
          refine XS.istore X1.here hx rfl (hb hby at_55) rfl (l' := #[iv i1, .val (.long j2), .second, iv i3, iv i4, iv l2, iv (l2 - b1), iv nv, iv (0 : Int32), iv (0 : Int32), iv (0 : Int32), .unset, .unset, .unset, .unset, .unset, .unset]) rfl ?_
          show own_S p e below T1 m 57 #[iv i1, .val (.long j2), .second, iv i3, iv i4, iv l2, iv (l2 - b1), iv nv, iv (0 : Int32), iv (0 : Int32), iv (0 : Int32), .unset, .unset, .unset, .unset, .unset, .unset] [] _
          refine XS.iconst X1.here hx rfl (hb hby at_57) ?_
          show own_S p e below T1 m 58 #[iv i1, .val (.long j2), .second, iv i3, iv i4, iv l2, iv (l2 - b1), iv nv, iv (0 : Int32), iv (0 : Int32), iv (0 : Int32), .unset, .unset, .unset, .unset, .unset, .unset] [(.int (0 : Int32))] _
          refine XS.istore X1.here hx rfl (hb hby at_58) rfl (l' := #[iv i1, .val (.long j2), .second, iv i3, iv i4, iv l2, iv (l2 - b1), iv nv, iv (0 : Int32), iv (0 : Int32), iv (0 : Int32), iv (0 : Int32), .unset, .unset, .unset, .unset, .unset]) rfl ?_
          exact k)
        exact ⟨nv, hn0, pre10⟩
  obtain ⟨Tj11, Lj11, Xj11, ej11, Nj11, n2, l1, s1, l0, s0, h_n2, prej11⟩ : ∃ (Tj : State) (Lj : List Loc), Stand p l e room_1 s m #[(.int i1), (.long j2), (.int i3), (.int i4)] below meth c Tj Lj 0 0 ∧ Tj.heap = h0 ∧ Fr n0 Lj ∧ ∃ n2 : Int32, ∃ l1 : Int32, ∃ s1 : Int32, ∃ l0 : Int32, ∃ s0 : Int32, (n2 = 1 ∨ n2 = 2 ∨ n2 = 3) ∧ ∀ t, own_S p e below Tj m 166 #[iv i1, .val (.long j2), .second, iv i3, iv i4, iv l2, iv (l2 - b1), iv n2, iv l1, iv s1, iv l0, iv s0, .unset, .unset, .unset, .unset, .unset] [] t → Steps p.tables e below (s₁.setTop (entryFrame m #[(.int i1), (.long j2), (.int i3), (.int i4)] maxLocals)) t := by
    have pre13 : ∀ t, own_S p e below T1 m 63 #[iv i1, .val (.long j2), .second, iv i3, iv i4, iv l2, iv (l2 - b1), iv n1, iv (0 : Int32), iv (0 : Int32), iv (0 : Int32), iv (0 : Int32), .unset, .unset, .unset, .unset, .unset] [(.int (2 : Int32)), (.int n1)] t → Steps p.tables e below (s₁.setTop (entryFrame m #[(.int i1), (.long j2), (.int i3), (.int i4)] maxLocals)) t := fun t k => prej3 t (by
      show own_S p e below T1 m 60 #[iv i1, .val (.long j2), .second, iv i3, iv i4, iv l2, iv (l2 - b1), iv n1, iv (0 : Int32), iv (0 : Int32), iv (0 : Int32), iv (0 : Int32), .unset, .unset, .unset, .unset, .unset] [] _
      refine XS.iload X1.here hx rfl (hb hby at_60) rfl ?_
      show own_S p e below T1 m 62 #[iv i1, .val (.long j2), .second, iv i3, iv i4, iv l2, iv (l2 - b1), iv n1, iv (0 : Int32), iv (0 : Int32), iv (0 : Int32), iv (0 : Int32), .unset, .unset, .unset, .unset, .unset] [(.int n1)] _
      refine XS.iconst X1.here hx rfl (hb hby at_62) ?_
      exact k)
    by_cases hc63_12 : n1 < (2 : Int32)
    ·  -- pc 63 yes
      have pre15 : ∀ t, own_S p e below T1 m 126 #[iv i1, .val (.long j2), .second, iv i3, iv i4, iv l2, iv (l2 - b1), iv n1, iv (0 : Int32), iv (0 : Int32), iv (0 : Int32), iv (0 : Int32), .unset, .unset, .unset, .unset, .unset] [(.int (3 : Int32)), (.int n1)] t → Steps p.tables e below (s₁.setTop (entryFrame m #[(.int i1), (.long j2), (.int i3), (.int i4)] maxLocals)) t := fun t k => pre13 t (by
        show own_S p e below T1 m 63 #[iv i1, .val (.long j2), .second, iv i3, iv i4, iv l2, iv (l2 - b1), iv n1, iv (0 : Int32), iv (0 : Int32), iv (0 : Int32), iv (0 : Int32), .unset, .unset, .unset, .unset, .unset] [(.int (2 : Int32)), (.int n1)] _
        refine XS.icmpYes X1.here hx rfl (pc0 := 63) (pc' := 123) rfl (hb hby at_63) rfl (tlt hc63_12).1 (by decide) (by decide) ?_
        show own_S p e below T1 m 123 #[iv i1, .val (.long j2), .second, iv i3, iv i4, iv l2, iv (l2 - b1), iv n1, iv (0 : Int32), iv (0 : Int32), iv (0 : Int32), iv (0 : Int32), .unset, .unset, .unset, .unset, .unset] [] _
        refine XS.iload X1.here hx rfl (hb hby at_123) rfl ?_
        show own_S p e below T1 m 125 #[iv i1, .val (.long j2), .second, iv i3, iv i4, iv l2, iv (l2 - b1), iv n1, iv (0 : Int32), iv (0 : Int32), iv (0 : Int32), iv (0 : Int32), .unset, .unset, .unset, .unset, .unset] [(.int n1)] _
        refine XS.iconst X1.here hx rfl (hb hby at_125) ?_
        exact k)
      by_cases hc126_14 : n1 = (3 : Int32)
      ·  -- pc 126 yes
        obtain ⟨_, _, ⟨T16, L16, k16, n16⟩, -, X16, ⟨Lc16, hQ16, l16, y16, z16⟩, st16⟩ := Jvm.LawKit.callS X1 hx (y := (⟨"java/lang/Math", "min", "(II)I"⟩ : MethodName)) hown (mvT hZ (hw _ (List.mem_of_getElem? (i := 2) rfl))) (mvT hZ (hw _ (List.mem_of_getElem? (i := 3) rfl))) (mvT hZ (hw _ (List.mem_of_getElem? (i := 4) rfl))) (mvT hZ (hw _ (List.mem_of_getElem? (i := 5) rfl))) (by decide) (backOf (W := 1) (rm1 l Z a0 hw [] ((((j2.toUInt64 >>> ((48 : Int32) &&& 0x3f).toInt64.toUInt64).toInt64) &&& (65535 : Int64)).toInt32) ((0 : Int32) - (2 : Int32)) h0 n0 Z0 ) hZ (hw _ (List.mem_of_getElem? (i := 5) rfl)) (hw _ (List.mem_of_getElem? (i := 4) rfl)) (by decide) (by decide)) (g := (mkF m 146 #[iv i1, .val (.long j2), .second, iv i3, iv i4, iv l2, iv (l2 - b1), iv n1, iv (0 : Int32), iv (0 : Int32), iv (0 : Int32), iv (0 : Int32), .unset, .unset, .unset, .unset, .unset] [(.int ((0 : Int32) - (2 : Int32))), (.int ((((j2.toUInt64 >>> ((48 : Int32) &&& 0x3f).toInt64.toUInt64).toInt64) &&& (65535 : Int64)).toInt32)), (.int ((0 : Int32) - (2 : Int32)))])) rfl (by rw [hml]; rfl) (argsL := [(.int ((((j2.toUInt64 >>> ((48 : Int32) &&& 0x3f).toInt64.toUInt64).toInt64) &&& (65535 : Int64)).toInt32)), (.int ((0 : Int32) - (2 : Int32)))]) (rest := [(.int ((0 : Int32) - (2 : Int32)))]) (lenOf pd_0 rfl) rfl (by show 2 * 0 + _ ≤ _; exact Nat.le_of_eq rfl) (hb hby at_146) (fun _ _ => ⟨rfl, e1, (by decide : 0 + 0 ≤ _), (by decide : 0 + 0 ≤ _)⟩)
        dsimp only [Pt.U, Pt.locs, Pt.cells, Pt.slots] at X16 l16 y16 z16 st16 hQ16
        subst l16 y16 z16
        obtain ⟨b16, rfl, N16q, e16q⟩ := hQ16
        have N16 := Fr.app N1 N16q
        have e16 : T16.heap = h0 := e16q
        obtain ⟨_, _, ⟨T17, L17, k17, n17⟩, -, X17, ⟨Lc17, hQ17, l17, y17, z17⟩, st17⟩ := Jvm.LawKit.callS X16 hx (y := (⟨"java/lang/Math", "min", "(II)I"⟩ : MethodName)) hown (mvT hZ (hw _ (List.mem_of_getElem? (i := 2) rfl))) (mvT hZ (hw _ (List.mem_of_getElem? (i := 3) rfl))) (mvT hZ (hw _ (List.mem_of_getElem? (i := 4) rfl))) (mvT hZ (hw _ (List.mem_of_getElem? (i := 5) rfl))) (by decide) (backOf (W := 1) (rm1 l Z a0 hw [] (i3 &&& (65535 : Int32)) (((0 : Int32) - (2 : Int32)) - b16) h0 n0 Z0 ) hZ (hw _ (List.mem_of_getElem? (i := 5) rfl)) (hw _ (List.mem_of_getElem? (i := 4) rfl)) (by decide) (by decide)) (g := (mkF m 160 #[iv i1, .val (.long j2), .second, iv i3, iv i4, iv l2, iv (l2 - b1), iv n1, iv (0 : Int32), iv (0 : Int32), iv (((0 : Int32) - (2 : Int32)) - b16), iv (0 : Int32), .unset, .unset, .unset, .unset, .unset] [(.int (((0 : Int32) - (2 : Int32)) - b16)), (.int (i3 &&& (65535 : Int32))), (.int (((0 : Int32) - (2 : Int32)) - b16))])) rfl (by rw [hml]; rfl) (argsL := [(.int (i3 &&& (65535 : Int32))), (.int (((0 : Int32) - (2 : Int32)) - b16))]) (rest := [(.int (((0 : Int32) - (2 : Int32)) - b16))]) (lenOf pd_0 rfl) rfl (by show 2 * 0 + _ ≤ _; exact Nat.le_of_eq rfl) (hb hby at_160) (fun _ _ => ⟨rfl, e16, (by decide : 0 + 0 ≤ _), (by decide : 0 + 0 ≤ _)⟩)
        dsimp only [Pt.U, Pt.locs, Pt.cells, Pt.slots] at X17 l17 y17 z17 st17 hQ17
        subst l17 y17 z17
        obtain ⟨b17, rfl, N17q, e17q⟩ := hQ17
        have N17 := Fr.app N16 N17q
        have e17 : T17.heap = h0 := e17q
        have pre18 : ∀ t, own_S p e below T17 m 166 #[iv i1, .val (.long j2), .second, iv i3, iv i4, iv l2, iv (l2 - b1), iv n1, iv (0 : Int32), iv (0 : Int32), iv (((0 : Int32) - (2 : Int32)) - b16), iv ((((0 : Int32) - (2 : Int32)) - b16) - b17), .unset, .unset, .unset, .unset, .unset] [] t → Steps p.tables e below (s₁.setTop (entryFrame m #[(.int i1), (.long j2), (.int i3), (.int i4)] maxLocals)) t := fun t k => pre15 t (by
          show own_S p e below T1 m 126 #[iv i1, .val (.long j2), .second, iv i3, iv i4, iv l2, iv (l2 - b1), iv n1, iv (0 : Int32), iv (0 : Int32), iv (0 : Int32), iv (0 : Int32), .unset, .unset, .unset, .unset, .unset] [(.int (3 : Int32)), (.int n1)] _
          refine XS.icmpNo X1.here hx rfl (hb hby at_126) rfl (teq hc126_14).2 ?_
          show own_S p e below T1 m 129 #[iv i1, .val (.long j2), .second, iv i3, iv i4, iv l2, iv (l2 - b1), iv n1, iv (0 : Int32), iv (0 : Int32), iv (0 : Int32), iv (0 : Int32), .unset, .unset, .unset, .unset, .unset] [] _
          refine XS.iload X1.here hx rfl (hb hby at_129) rfl ?_
          show own_S p e below T1 m 131 #[iv i1, .val (.long j2), .second, iv i3, iv i4, iv l2, iv (l2 - b1), iv n1, iv (0 : Int32), iv (0 : Int32), iv (0 : Int32), iv (0 : Int32), .unset, .unset, .unset, .unset, .unset] [(.int (0 : Int32))] _
          refine XS.iconst X1.here hx rfl (hb hby at_131) ?_
          show own_S p e below T1 m 132 #[iv i1, .val (.long j2), .second, iv i3, iv i4, iv l2, iv (l2 - b1), iv n1, iv (0 : Int32), iv (0 : Int32), iv (0 : Int32), iv (0 : Int32), .unset, .unset, .unset, .unset, .unset] [(.int (2 : Int32)), (.int (0 : Int32))] _
          refine XS.isub X1.here hx rfl (hb hby at_132) rfl ?_
          show own_S p e below T1 m 133 #[iv i1, .val (.long j2), .second, iv i3, iv i4, iv l2, iv (l2 - b1), iv n1, iv (0 : Int32), iv (0 : Int32), iv (0 : Int32), iv (0 : Int32), .unset, .unset, .unset, .unset, .unset] [(.int ((0 : Int32) - (2 : Int32)))] _
          refine XS.lloadN X1.here hx rfl (hb hby at_133) rfl ?_
          show own_S p e below T1 m 134 #[iv i1, .val (.long j2), .second, iv i3, iv i4, iv l2, iv (l2 - b1), iv n1, iv (0 : Int32), iv (0 : Int32), iv (0 : Int32), iv (0 : Int32), .unset, .unset, .unset, .unset, .unset] [(.long j2), (.int ((0 : Int32) - (2 : Int32)))] _
          refine XS.bipush X1.here hx rfl (hb hby at_134) ?_
          show own_S p e below T1 m 136 #[iv i1, .val (.long j2), .second, iv i3, iv i4, iv l2, iv (l2 - b1), iv n1, iv (0 : Int32), iv (0 : Int32), iv (0 : Int32), iv (0 : Int32), .unset, .unset, .unset, .unset, .unset] [(.int (48 : Int32)), (.long j2), (.int ((0 : Int32) - (2 : Int32)))] _
          refine XS.lushr X1.here hx rfl (hb hby at_136) rfl ?_
          show own_S p e below T1 m 137 #[iv i1, .val (.long j2), .second, iv i3, iv i4, iv l2, iv (l2 - b1), iv n1, iv (0 : Int32), iv (0 : Int32), iv (0 : Int32), iv (0 : Int32), .unset, .unset, .unset, .unset, .unset] [(.long ((j2.toUInt64 >>> ((48 : Int32) &&& 0x3f).toInt64.toUInt64).toInt64)), (.int ((0 : Int32) - (2 : Int32)))] _
          refine X1.ldc2Long hx hown (mvT hZ (hw _ (List.mem_of_getElem? (i := 1) rfl))) (g := (mkF m 137 #[iv i1, .val (.long j2), .second, iv i3, iv i4, iv l2, iv (l2 - b1), iv n1, iv (0 : Int32), iv (0 : Int32), iv (0 : Int32), iv (0 : Int32), .unset, .unset, .unset, .unset, .unset] [(.long ((j2.toUInt64 >>> ((48 : Int32) &&& 0x3f).toInt64.toUInt64).toInt64)), (.int ((0 : Int32) - (2 : Int32)))])) rfl (hb hby at_137) _ ?_
          show own_S p e below T1 m 140 #[iv i1, .val (.long j2), .second, iv i3, iv i4, iv l2, iv (l2 - b1), iv n1, iv (0 : Int32), iv (0 : Int32), iv (0 : Int32), iv (0 : Int32), .unset, .unset, .unset, .unset, .unset] [(.long (65535 : Int64)), (.long ((j2.toUInt64 >>> ((48 : Int32) &&& 0x3f).toInt64.toUInt64).toInt64)), (.int ((0 : Int32) - (2 : Int32)))] _
          refine XS.land X1.here hx rfl (hb hby at_140) rfl ?_
          show own_S p e below T1 m 141 #[iv i1, .val (.long j2), .second, iv i3, iv i4, iv l2, iv (l2 - b1), iv n1, iv (0 : Int32), iv (0 : Int32), iv (0 : Int32), iv (0 : Int32), .unset, .unset, .unset, .unset, .unset] [(.long (((j2.toUInt64 >>> ((48 : Int32) &&& 0x3f).toInt64.toUInt64).toInt64) &&& (65535 : Int64))), (.int ((0 : Int32) - (2 : Int32)))] _
          refine XS.l2i X1.here hx rfl (hb hby at_141) rfl ?_
          show own_S p e below T1 m 142 #[iv i1, .val (.long j2), .second, iv i3, iv i4, iv l2, iv (l2 - b1), iv n1, iv (0 : Int32), iv (0 : Int32), iv (0 : Int32), iv (0 : Int32), .unset, .unset, .unset, .unset, .unset] [(.int ((((j2.toUInt64 >>> ((48 : Int32) &&& 0x3f).toInt64.toUInt64).toInt64) &&& (65535 : Int64)).toInt32)), (.int ((0 : Int32) - (2 : Int32)))] _
          refine XS.iload X1.here hx rfl (hb hby at_142) rfl ?_
          show own_S p e below T1 m 144 #[iv i1, .val (.long j2), .second, iv i3, iv i4, iv l2, iv (l2 - b1), iv n1, iv (0 : Int32), iv (0 : Int32), iv (0 : Int32), iv (0 : Int32), .unset, .unset, .unset, .unset, .unset] [(.int (0 : Int32)), (.int ((((j2.toUInt64 >>> ((48 : Int32) &&& 0x3f).toInt64.toUInt64).toInt64) &&& (65535 : Int64)).toInt32)), (.int ((0 : Int32) - (2 : Int32)))] _
          refine XS.iconst X1.here hx rfl (hb hby at_144) ?_
          show own_S p e below T1 m 145 #[iv i1, .val (.long j2), .second, iv i3, iv i4, iv l2, iv (l2 - b1), iv n1, iv (0 : Int32), iv (0 : Int32), iv (0 : Int32), iv (0 : Int32), .unset, .unset, .unset, .unset, .unset] [(.int (2 : Int32)), (.int (0 : Int32)), (.int ((((j2.toUInt64 >>> ((48 : Int32) &&& 0x3f).toInt64.toUInt64).toInt64) &&& (65535 : Int64)).toInt32)), (.int ((0 : Int32) - (2 : Int32)))] _
          refine XS.isub X1.here hx rfl (hb hby at_145) rfl ?_
          show own_S p e below T1 m 146 #[iv i1, .val (.long j2), .second, iv i3, iv i4, iv l2, iv (l2 - b1), iv n1, iv (0 : Int32), iv (0 : Int32), iv (0 : Int32), iv (0 : Int32), .unset, .unset, .unset, .unset, .unset] [(.int ((0 : Int32) - (2 : Int32))), (.int ((((j2.toUInt64 >>> ((48 : Int32) &&& 0x3f).toInt64.toUInt64).toInt64) &&& (65535 : Int64)).toInt32)), (.int ((0 : Int32) - (2 : Int32)))] _
          refine st16 _ ?_
          show own_S p e below T16 m 149 #[iv i1, .val (.long j2), .second, iv i3, iv i4, iv l2, iv (l2 - b1), iv n1, iv (0 : Int32), iv (0 : Int32), iv (0 : Int32), iv (0 : Int32), .unset, .unset, .unset, .unset, .unset] [(.int b16), (.int ((0 : Int32) - (2 : Int32)))] _
          refine XS.isub X16.here hx rfl (hb hby at_149) rfl ?_
          show own_S p e below T16 m 150 #[iv i1, .val (.long j2), .second, iv i3, iv i4, iv l2, iv (l2 - b1), iv n1, iv (0 : Int32), iv (0 : Int32), iv (0 : Int32), iv (0 : Int32), .unset, .unset, .unset, .unset, .unset] [(.int (((0 : Int32) - (2 : Int32)) - b16))] _
          refine XS.istore X16.here hx rfl (hb hby at_150) rfl (l' := #[iv i1, .val (.long j2), .second, iv i3, iv i4, iv l2, iv (l2 - b1), iv n1, iv (0 : Int32), iv (0 : Int32), iv (((0 : Int32) - (2 : Int32)) - b16), iv (0 : Int32), .unset, .unset, .unset, .unset, .unset]) rfl ?_
          show own_S p e below T16 m 152 #[iv i1, .val (.long j2), .second, iv i3, iv i4, iv l2, iv (l2 - b1), iv n1, iv (0 : Int32), iv (0 : Int32), iv (((0 : Int32) - (2 : Int32)) - b16), iv (0 : Int32), .unset, .unset, .unset, .unset, .unset] [] _
          refine XS.iload X16.here hx rfl (hb hby at_152) rfl ?_
          show own_S p e below T16 m 154 #[iv i1, .val (.long j2), .second, iv i3, iv i4, iv l2, iv (l2 - b1), iv n1, iv (0 : Int32), iv (0 : Int32), iv (((0 : Int32) - (2 : Int32)) - b16), iv (0 : Int32), .unset, .unset, .unset, .unset, .unset] [(.int (((0 : Int32) - (2 : Int32)) - b16))] _
          refine XS.iloadN X16.here hx rfl (hb hby at_154) rfl ?_
          show own_S p e below T16 m 155 #[iv i1, .val (.long j2), .second, iv i3, iv i4, iv l2, iv (l2 - b1), iv n1, iv (0 : Int32), iv (0 : Int32), iv (((0 : Int32) - (2 : Int32)) - b16), iv (0 : Int32), .unset, .unset, .unset, .unset, .unset] [(.int i3), (.int (((0 : Int32) - (2 : Int32)) - b16))] _
          refine X16.ldcInt hx hown (mvT hZ (hw _ (List.mem_of_getElem? (i := 0) rfl))) (g := (mkF m 155 #[iv i1, .val (.long j2), .second, iv i3, iv i4, iv l2, iv (l2 - b1), iv n1, iv (0 : Int32), iv (0 : Int32), iv (((0 : Int32) - (2 : Int32)) - b16), iv (0 : Int32), .unset, .unset, .unset, .unset, .unset] [(.int i3), (.int (((0 : Int32) - (2 : Int32)) - b16))])) rfl (hb hby at_155) _ ?_
          show own_S p e below T16 m 157 #[iv i1, .val (.long j2), .second, iv i3, iv i4, iv l2, iv (l2 - b1), iv n1, iv (0 : Int32), iv (0 : Int32), iv (((0 : Int32) - (2 : Int32)) - b16), iv (0 : Int32), .unset, .unset, .unset, .unset, .unset] [(.int (65535 : Int32)), (.int i3), (.int (((0 : Int32) - (2 : Int32)) - b16))] _
          refine XS.iand X16.here hx rfl (hb hby at_157) rfl ?_
          show own_S p e below T16 m 158 #[iv i1, .val (.long j2), .second, iv i3, iv i4, iv l2, iv (l2 - b1), iv n1, iv (0 : Int32), iv (0 : Int32), iv (((0 : Int32) - (2 : Int32)) - b16), iv (0 : Int32), .unset, .unset, .unset, .unset, .unset] [(.int (i3 &&& (65535 : Int32))), (.int (((0 : Int32) - (2 : Int32)) - b16))] _
          refine XS.iload X16.here hx rfl (hb hby at_158) rfl ?_
          show own_S p e below T16 m 160 #[iv i1, .val (.long j2), .second, iv i3, iv i4, iv l2, iv (l2 - b1), iv n1, iv (0 : Int32), iv (0 : Int32), iv (((0 : Int32) - (2 : Int32)) - b16), iv (0 : Int32), .unset, .unset, .unset, .unset, .unset] [(.int (((0 : Int32) - (2 : Int32)) - b16)), (.int (i3 &&& (65535 : Int32))), (.int (((0 : Int32) - (2 : Int32)) - b16))] _
          refine st17 _ ?_
          show own_S p e below T17 m 163 #[iv i1, .val (.long j2), .second, iv i3, iv i4, iv l2, iv (l2 - b1), iv n1, iv (0 : Int32), iv (0 : Int32), iv (((0 : Int32) - (2 : Int32)) - b16), iv (0 : Int32), .unset, .unset, .unset, .unset, .unset] [(.int b17), (.int (((0 : Int32) - (2 : Int32)) - b16))] _
          refine XS.isub X17.here hx rfl (hb hby at_163) rfl ?_
          show own_S p e below T17 m 164 #[iv i1, .val (.long j2), .second, iv i3, iv i4, iv l2, iv (l2 - b1), iv n1, iv (0 : Int32), iv (0 : Int32), iv (((0 : Int32) - (2 : Int32)) - b16), iv (0 : Int32), .unset, .unset, .unset, .unset, .unset] [(.int ((((0 : Int32) - (2 : Int32)) - b16) - b17))] _
          refine XS.istore X17.here hx rfl (hb hby at_164) rfl (l' := #[iv i1, .val (.long j2), .second, iv i3, iv i4, iv l2, iv (l2 - b1), iv n1, iv (0 : Int32), iv (0 : Int32), iv (((0 : Int32) - (2 : Int32)) - b16), iv ((((0 : Int32) - (2 : Int32)) - b16) - b17), .unset, .unset, .unset, .unset, .unset]) rfl ?_
          exact k)
        exact ⟨T17, _, X17, e17, N17, n1, (0 : Int32), (0 : Int32), (((0 : Int32) - (2 : Int32)) - b16), ((((0 : Int32) - (2 : Int32)) - b16) - b17), h_n1, pre18⟩
      ·  -- pc 126 no
        have pre19 : ∀ t, own_S p e below T1 m 166 #[iv i1, .val (.long j2), .second, iv i3, iv i4, iv l2, iv (l2 - b1), iv n1, iv (0 : Int32), iv (0 : Int32), iv (0 : Int32), iv (0 : Int32), .unset, .unset, .unset, .unset, .unset] [] t → Steps p.tables e below (s₁.setTop (entryFrame m #[(.int i1), (.long j2), (.int i3), (.int i4)] maxLocals)) t := fun t k => pre15 t (by
          show own_S p e below T1 m 126 #[iv i1, .val (.long j2), .second, iv i3, iv i4, iv l2, iv (l2 - b1), iv n1, iv (0 : Int32), iv (0 : Int32), iv (0 : Int32), iv (0 : Int32), .unset, .unset, .unset, .unset, .unset] [(.int (3 : Int32)), (.int n1)] _
          refine XS.icmpYes X1.here hx rfl (pc0 := 126) (pc' := 166) rfl (hb hby at_126) rfl (feq hc126_14).2 (by decide) (by decide) ?_
          exact k)
        exact ⟨T1, _, X1, e1, N1, n1, (0 : Int32), (0 : Int32), (0 : Int32), (0 : Int32), h_n1, pre19⟩
    ·  -- pc 63 no
      obtain ⟨_, _, ⟨T20, L20, k20, n20⟩, -, X20, ⟨Lc20, hQ20, l20, y20, z20⟩, st20⟩ := Jvm.LawKit.callS X1 hx (y := (⟨"java/lang/Math", "min", "(II)I"⟩ : MethodName)) hown (mvT hZ (hw _ (List.mem_of_getElem? (i := 2) rfl))) (mvT hZ (hw _ (List.mem_of_getElem? (i := 3) rfl))) (mvT hZ (hw _ (List.mem_of_getElem? (i := 4) rfl))) (mvT hZ (hw _ (List.mem_of_getElem? (i := 5) rfl))) (by decide) (backOf (W := 1) (rm1 l Z a0 hw [] ((((j2.toUInt64 >>> ((16 : Int32) &&& 0x3f).toInt64.toUInt64).toInt64) &&& (65535 : Int64)).toInt32) ((l2 - b1) - (2 : Int32)) h0 n0 Z0 ) hZ (hw _ (List.mem_of_getElem? (i := 5) rfl)) (hw _ (List.mem_of_getElem? (i := 4) rfl)) (by decide) (by decide)) (g := (mkF m 83 #[iv i1, .val (.long j2), .second, iv i3, iv i4, iv l2, iv (l2 - b1), iv n1, iv (0 : Int32), iv (0 : Int32), iv (0 : Int32), iv (0 : Int32), .unset, .unset, .unset, .unset, .unset] [(.int ((l2 - b1) - (2 : Int32))), (.int ((((j2.toUInt64 >>> ((16 : Int32) &&& 0x3f).toInt64.toUInt64).toInt64) &&& (65535 : Int64)).toInt32)), (.int ((l2 - b1) - (2 : Int32)))])) rfl (by rw [hml]; rfl) (argsL := [(.int ((((j2.toUInt64 >>> ((16 : Int32) &&& 0x3f).toInt64.toUInt64).toInt64) &&& (65535 : Int64)).toInt32)), (.int ((l2 - b1) - (2 : Int32)))]) (rest := [(.int ((l2 - b1) - (2 : Int32)))]) (lenOf pd_0 rfl) rfl (by show 2 * 0 + _ ≤ _; exact Nat.le_of_eq rfl) (hb hby at_83) (fun _ _ => ⟨rfl, e1, (by decide : 0 + 0 ≤ _), (by decide : 0 + 0 ≤ _)⟩)
      dsimp only [Pt.U, Pt.locs, Pt.cells, Pt.slots] at X20 l20 y20 z20 st20 hQ20
      subst l20 y20 z20
      obtain ⟨b20, rfl, N20q, e20q⟩ := hQ20
      have N20 := Fr.app N1 N20q
      have e20 : T20.heap = h0 := e20q
      obtain ⟨_, _, ⟨T21, L21, k21, n21⟩, -, X21, ⟨Lc21, hQ21, l21, y21, z21⟩, st21⟩ := Jvm.LawKit.callS X20 hx (y := (⟨"java/lang/Math", "min", "(II)I"⟩ : MethodName)) hown (mvT hZ (hw _ (List.mem_of_getElem? (i := 2) rfl))) (mvT hZ (hw _ (List.mem_of_getElem? (i := 3) rfl))) (mvT hZ (hw _ (List.mem_of_getElem? (i := 4) rfl))) (mvT hZ (hw _ (List.mem_of_getElem? (i := 5) rfl))) (by decide) (backOf (W := 1) (rm1 l Z a0 hw [] ((((j2.toUInt64 >>> ((32 : Int32) &&& 0x3f).toInt64.toUInt64).toInt64) &&& (65535 : Int64)).toInt32) (((l2 - b1) - (2 : Int32)) - b20) h0 n0 Z0 ) hZ (hw _ (List.mem_of_getElem? (i := 5) rfl)) (hw _ (List.mem_of_getElem? (i := 4) rfl)) (by decide) (by decide)) (g := (mkF m 102 #[iv i1, .val (.long j2), .second, iv i3, iv i4, iv l2, iv (l2 - b1), iv n1, iv (((l2 - b1) - (2 : Int32)) - b20), iv (0 : Int32), iv (0 : Int32), iv (0 : Int32), .unset, .unset, .unset, .unset, .unset] [(.int (((l2 - b1) - (2 : Int32)) - b20)), (.int ((((j2.toUInt64 >>> ((32 : Int32) &&& 0x3f).toInt64.toUInt64).toInt64) &&& (65535 : Int64)).toInt32)), (.int (((l2 - b1) - (2 : Int32)) - b20))])) rfl (by rw [hml]; rfl) (argsL := [(.int ((((j2.toUInt64 >>> ((32 : Int32) &&& 0x3f).toInt64.toUInt64).toInt64) &&& (65535 : Int64)).toInt32)), (.int (((l2 - b1) - (2 : Int32)) - b20))]) (rest := [(.int (((l2 - b1) - (2 : Int32)) - b20))]) (lenOf pd_0 rfl) rfl (by show 2 * 0 + _ ≤ _; exact Nat.le_of_eq rfl) (hb hby at_102) (fun _ _ => ⟨rfl, e20, (by decide : 0 + 0 ≤ _), (by decide : 0 + 0 ≤ _)⟩)
      dsimp only [Pt.U, Pt.locs, Pt.cells, Pt.slots] at X21 l21 y21 z21 st21 hQ21
      subst l21 y21 z21
      obtain ⟨b21, rfl, N21q, e21q⟩ := hQ21
      have N21 := Fr.app N20 N21q
      have e21 : T21.heap = h0 := e21q
      have pre23 : ∀ t, own_S p e below T21 m 111 #[iv i1, .val (.long j2), .second, iv i3, iv i4, iv l2, iv (l2 - b1), iv n1, iv (((l2 - b1) - (2 : Int32)) - b20), iv ((((l2 - b1) - (2 : Int32)) - b20) - b21), iv (0 : Int32), iv (0 : Int32), .unset, .unset, .unset, .unset, .unset] [(.int (3 : Int32)), (.int n1)] t → Steps p.tables e below (s₁.setTop (entryFrame m #[(.int i1), (.long j2), (.int i3), (.int i4)] maxLocals)) t := fun t k => pre13 t (by
        show own_S p e below T1 m 63 #[iv i1, .val (.long j2), .second, iv i3, iv i4, iv l2, iv (l2 - b1), iv n1, iv (0 : Int32), iv (0 : Int32), iv (0 : Int32), iv (0 : Int32), .unset, .unset, .unset, .unset, .unset] [(.int (2 : Int32)), (.int n1)] _
        refine XS.icmpNo X1.here hx rfl (hb hby at_63) rfl (flt hc63_12).1 ?_
        show own_S p e below T1 m 66 #[iv i1, .val (.long j2), .second, iv i3, iv i4, iv l2, iv (l2 - b1), iv n1, iv (0 : Int32), iv (0 : Int32), iv (0 : Int32), iv (0 : Int32), .unset, .unset, .unset, .unset, .unset] [] _
        refine XS.iload X1.here hx rfl (hb hby at_66) rfl ?_
        show own_S p e below T1 m 68 #[iv i1, .val (.long j2), .second, iv i3, iv i4, iv l2, iv (l2 - b1), iv n1, iv (0 : Int32), iv (0 : Int32), iv (0 : Int32), iv (0 : Int32), .unset, .unset, .unset, .unset, .unset] [(.int (l2 - b1))] _
        refine XS.iconst X1.here hx rfl (hb hby at_68) ?_
        show own_S p e below T1 m 69 #[iv i1, .val (.long j2), .second, iv i3, iv i4, iv l2, iv (l2 - b1), iv n1, iv (0 : Int32), iv (0 : Int32), iv (0 : Int32), iv (0 : Int32), .unset, .unset, .unset, .unset, .unset] [(.int (2 : Int32)), (.int (l2 - b1))] _
        refine XS.isub X1.here hx rfl (hb hby at_69) rfl ?_
        show own_S p e below T1 m 70 #[iv i1, .val (.long j2), .second, iv i3, iv i4, iv l2, iv (l2 - b1), iv n1, iv (0 : Int32), iv (0 : Int32), iv (0 : Int32), iv (0 : Int32), .unset, .unset, .unset, .unset, .unset] [(.int ((l2 - b1) - (2 : Int32)))] _
        refine XS.lloadN X1.here hx rfl (hb hby at_70) rfl ?_
        show own_S p e below T1 m 71 #[iv i1, .val (.long j2), .second, iv i3, iv i4, iv l2, iv (l2 - b1), iv n1, iv (0 : Int32), iv (0 : Int32), iv (0 : Int32), iv (0 : Int32), .unset, .unset, .unset, .unset, .unset] [(.long j2), (.int ((l2 - b1) - (2 : Int32)))] _
        refine XS.bipush X1.here hx rfl (hb hby at_71) ?_
        show own_S p e below T1 m 73 #[iv i1, .val (.long j2), .second, iv i3, iv i4, iv l2, iv (l2 - b1), iv n1, iv (0 : Int32), iv (0 : Int32), iv (0 : Int32), iv (0 : Int32), .unset, .unset, .unset, .unset, .unset] [(.int (16 : Int32)), (.long j2), (.int ((l2 - b1) - (2 : Int32)))] _
        refine XS.lushr X1.here hx rfl (hb hby at_73) rfl ?_
        show own_S p e below T1 m 74 #[iv i1, .val (.long j2), .second, iv i3, iv i4, iv l2, iv (l2 - b1), iv n1, iv (0 : Int32), iv (0 : Int32), iv (0 : Int32), iv (0 : Int32), .unset, .unset, .unset, .unset, .unset] [(.long ((j2.toUInt64 >>> ((16 : Int32) &&& 0x3f).toInt64.toUInt64).toInt64)), (.int ((l2 - b1) - (2 : Int32)))] _
        refine X1.ldc2Long hx hown (mvT hZ (hw _ (List.mem_of_getElem? (i := 1) rfl))) (g := (mkF m 74 #[iv i1, .val (.long j2), .second, iv i3, iv i4, iv l2, iv (l2 - b1), iv n1, iv (0 : Int32), iv (0 : Int32), iv (0 : Int32), iv (0 : Int32), .unset, .unset, .unset, .unset, .unset] [(.long ((j2.toUInt64 >>> ((16 : Int32) &&& 0x3f).toInt64.toUInt64).toInt64)), (.int ((l2 - b1) - (2 : Int32)))])) rfl (hb hby at_74) _ ?_
        show own_S p e below T1 m 77 #[iv i1, .val (.long j2), .second, iv i3, iv i4, iv l2, iv (l2 - b1), iv n1, iv (0 : Int32), iv (0 : Int32), iv (0 : Int32), iv (0 : Int32), .unset, .unset, .unset, .unset, .unset] [(.long (65535 : Int64)), (.long ((j2.toUInt64 >>> ((16 : Int32) &&& 0x3f).toInt64.toUInt64).toInt64)), (.int ((l2 - b1) - (2 : Int32)))] _
        refine XS.land X1.here hx rfl (hb hby at_77) rfl ?_
        show own_S p e below T1 m 78 #[iv i1, .val (.long j2), .second, iv i3, iv i4, iv l2, iv (l2 - b1), iv n1, iv (0 : Int32), iv (0 : Int32), iv (0 : Int32), iv (0 : Int32), .unset, .unset, .unset, .unset, .unset] [(.long (((j2.toUInt64 >>> ((16 : Int32) &&& 0x3f).toInt64.toUInt64).toInt64) &&& (65535 : Int64))), (.int ((l2 - b1) - (2 : Int32)))] _
        refine XS.l2i X1.here hx rfl (hb hby at_78) rfl ?_
        show own_S p e below T1 m 79 #[iv i1, .val (.long j2), .second, iv i3, iv i4, iv l2, iv (l2 - b1), iv n1, iv (0 : Int32), iv (0 : Int32), iv (0 : Int32), iv (0 : Int32), .unset, .unset, .unset, .unset, .unset] [(.int ((((j2.toUInt64 >>> ((16 : Int32) &&& 0x3f).toInt64.toUInt64).toInt64) &&& (65535 : Int64)).toInt32)), (.int ((l2 - b1) - (2 : Int32)))] _
        refine XS.iload X1.here hx rfl (hb hby at_79) rfl ?_
        show own_S p e below T1 m 81 #[iv i1, .val (.long j2), .second, iv i3, iv i4, iv l2, iv (l2 - b1), iv n1, iv (0 : Int32), iv (0 : Int32), iv (0 : Int32), iv (0 : Int32), .unset, .unset, .unset, .unset, .unset] [(.int (l2 - b1)), (.int ((((j2.toUInt64 >>> ((16 : Int32) &&& 0x3f).toInt64.toUInt64).toInt64) &&& (65535 : Int64)).toInt32)), (.int ((l2 - b1) - (2 : Int32)))] _
        refine XS.iconst X1.here hx rfl (hb hby at_81) ?_
        show own_S p e below T1 m 82 #[iv i1, .val (.long j2), .second, iv i3, iv i4, iv l2, iv (l2 - b1), iv n1, iv (0 : Int32), iv (0 : Int32), iv (0 : Int32), iv (0 : Int32), .unset, .unset, .unset, .unset, .unset] [(.int (2 : Int32)), (.int (l2 - b1)), (.int ((((j2.toUInt64 >>> ((16 : Int32) &&& 0x3f).toInt64.toUInt64).toInt64) &&& (65535 : Int64)).toInt32)), (.int ((l2 - b1) - (2 : Int32)))] _
        refine XS.isub X1.here hx rfl (hb hby at_82) rfl ?_
        show own_S p e below T1 m 83 #[iv i1, .val (.long j2), .second, iv i3, iv i4, iv l2, iv (l2 - b1), iv n1, iv (0 : Int32), iv (0 : Int32), iv (0 : Int32), iv (0 : Int32), .unset, .unset, .unset, .unset, .unset] [(.int ((l2 - b1) - (2 : Int32))), (.int ((((j2.toUInt64 >>> ((16 : Int32) &&& 0x3f).toInt64.toUInt64).toInt64) &&& (65535 : Int64)).toInt32)), (.int ((l2 - b1) - (2 : Int32)))] _
        refine st20 _ ?_
        show own_S p e below T20 m 86 #[iv i1, .val (.long j2), .second, iv i3, iv i4, iv l2, iv (l2 - b1), iv n1, iv (0 : Int32), iv (0 : Int32), iv (0 : Int32), iv (0 : Int32), .unset, .unset, .unset, .unset, .unset] [(.int b20), (.int ((l2 - b1) - (2 : Int32)))] _
        refine XS.isub X20.here hx rfl (hb hby at_86) rfl ?_
        show own_S p e below T20 m 87 #[iv i1, .val (.long j2), .second, iv i3, iv i4, iv l2, iv (l2 - b1), iv n1, iv (0 : Int32), iv (0 : Int32), iv (0 : Int32), iv (0 : Int32), .unset, .unset, .unset, .unset, .unset] [(.int (((l2 - b1) - (2 : Int32)) - b20))] _
        refine XS.istore X20.here hx rfl (hb hby at_87) rfl (l' := #[iv i1, .val (.long j2), .second, iv i3, iv i4, iv l2, iv (l2 - b1), iv n1, iv (((l2 - b1) - (2 : Int32)) - b20), iv (0 : Int32), iv (0 : Int32), iv (0 : Int32), .unset, .unset, .unset, .unset, .unset]) rfl ?_
        show own_S p e below T20 m 89 #[iv i1, .val (.long j2), .second, iv i3, iv i4, iv l2, iv (l2 - b1), iv n1, iv (((l2 - b1) - (2 : Int32)) - b20), iv (0 : Int32), iv (0 : Int32), iv (0 : Int32), .unset, .unset, .unset, .unset, .unset] [] _
        refine XS.iload X20.here hx rfl (hb hby at_89) rfl ?_
        show own_S p e below T20 m 91 #[iv i1, .val (.long j2), .second, iv i3, iv i4, iv l2, iv (l2 - b1), iv n1, iv (((l2 - b1) - (2 : Int32)) - b20), iv (0 : Int32), iv (0 : Int32), iv (0 : Int32), .unset, .unset, .unset, .unset, .unset] [(.int (((l2 - b1) - (2 : Int32)) - b20))] _
        refine XS.lloadN X20.here hx rfl (hb hby at_91) rfl ?_
        show own_S p e below T20 m 92 #[iv i1, .val (.long j2), .second, iv i3, iv i4, iv l2, iv (l2 - b1), iv n1, iv (((l2 - b1) - (2 : Int32)) - b20), iv (0 : Int32), iv (0 : Int32), iv (0 : Int32), .unset, .unset, .unset, .unset, .unset] [(.long j2), (.int (((l2 - b1) - (2 : Int32)) - b20))] _
        refine XS.bipush X20.here hx rfl (hb hby at_92) ?_
        show own_S p e below T20 m 94 #[iv i1, .val (.long j2), .second, iv i3, iv i4, iv l2, iv (l2 - b1), iv n1, iv (((l2 - b1) - (2 : Int32)) - b20), iv (0 : Int32), iv (0 : Int32), iv (0 : Int32), .unset, .unset, .unset, .unset, .unset] [(.int (32 : Int32)), (.long j2), (.int (((l2 - b1) - (2 : Int32)) - b20))] _
        refine XS.lushr X20.here hx rfl (hb hby at_94) rfl ?_
        show own_S p e below T20 m 95 #[iv i1, .val (.long j2), .second, iv i3, iv i4, iv l2, iv (l2 - b1), iv n1, iv (((l2 - b1) - (2 : Int32)) - b20), iv (0 : Int32), iv (0 : Int32), iv (0 : Int32), .unset, .unset, .unset, .unset, .unset] [(.long ((j2.toUInt64 >>> ((32 : Int32) &&& 0x3f).toInt64.toUInt64).toInt64)), (.int (((l2 - b1) - (2 : Int32)) - b20))] _
        refine X20.ldc2Long hx hown (mvT hZ (hw _ (List.mem_of_getElem? (i := 1) rfl))) (g := (mkF m 95 #[iv i1, .val (.long j2), .second, iv i3, iv i4, iv l2, iv (l2 - b1), iv n1, iv (((l2 - b1) - (2 : Int32)) - b20), iv (0 : Int32), iv (0 : Int32), iv (0 : Int32), .unset, .unset, .unset, .unset, .unset] [(.long ((j2.toUInt64 >>> ((32 : Int32) &&& 0x3f).toInt64.toUInt64).toInt64)), (.int (((l2 - b1) - (2 : Int32)) - b20))])) rfl (hb hby at_95) _ ?_
        show own_S p e below T20 m 98 #[iv i1, .val (.long j2), .second, iv i3, iv i4, iv l2, iv (l2 - b1), iv n1, iv (((l2 - b1) - (2 : Int32)) - b20), iv (0 : Int32), iv (0 : Int32), iv (0 : Int32), .unset, .unset, .unset, .unset, .unset] [(.long (65535 : Int64)), (.long ((j2.toUInt64 >>> ((32 : Int32) &&& 0x3f).toInt64.toUInt64).toInt64)), (.int (((l2 - b1) - (2 : Int32)) - b20))] _
        refine XS.land X20.here hx rfl (hb hby at_98) rfl ?_
        show own_S p e below T20 m 99 #[iv i1, .val (.long j2), .second, iv i3, iv i4, iv l2, iv (l2 - b1), iv n1, iv (((l2 - b1) - (2 : Int32)) - b20), iv (0 : Int32), iv (0 : Int32), iv (0 : Int32), .unset, .unset, .unset, .unset, .unset] [(.long (((j2.toUInt64 >>> ((32 : Int32) &&& 0x3f).toInt64.toUInt64).toInt64) &&& (65535 : Int64))), (.int (((l2 - b1) - (2 : Int32)) - b20))] _
        refine XS.l2i X20.here hx rfl (hb hby at_99) rfl ?_
        show own_S p e below T20 m 100 #[iv i1, .val (.long j2), .second, iv i3, iv i4, iv l2, iv (l2 - b1), iv n1, iv (((l2 - b1) - (2 : Int32)) - b20), iv (0 : Int32), iv (0 : Int32), iv (0 : Int32), .unset, .unset, .unset, .unset, .unset] [(.int ((((j2.toUInt64 >>> ((32 : Int32) &&& 0x3f).toInt64.toUInt64).toInt64) &&& (65535 : Int64)).toInt32)), (.int (((l2 - b1) - (2 : Int32)) - b20))] _
        refine XS.iload X20.here hx rfl (hb hby at_100) rfl ?_
        show own_S p e below T20 m 102 #[iv i1, .val (.long j2), .second, iv i3, iv i4, iv l2, iv (l2 - b1), iv n1, iv (((l2 - b1) - (2 : Int32)) - b20), iv (0 : Int32), iv (0 : Int32), iv (0 : Int32), .unset, .unset, .unset, .unset, .unset] [(.int (((l2 - b1) - (2 : Int32)) - b20)), (.int ((((j2.toUInt64 >>> ((32 : Int32) &&& 0x3f).toInt64.toUInt64).toInt64) &&& (65535 : Int64)).toInt32)), (.int (((l2 - b1) - (2 : Int32)) - b20))] _
        refine st21 _ ?_
        show own_S p e below T21 m 105 #[iv i1, .val (.long j2), .second, iv i3, iv i4, iv l2, iv (l2 - b1), iv n1, iv (((l2 - b1) - (2 : Int32)) - b20), iv (0 : Int32), iv (0 : Int32), iv (0 : Int32), .unset, .unset, .unset, .unset, .unset] [(.int b21), (.int (((l2 - b1) - (2 : Int32)) - b20))] _
        refine XS.isub X21.here hx rfl (hb hby at_105) rfl ?_
        show own_S p e below T21 m 106 #[iv i1, .val (.long j2), .second, iv i3, iv i4, iv l2, iv (l2 - b1), iv n1, iv (((l2 - b1) - (2 : Int32)) - b20), iv (0 : Int32), iv (0 : Int32), iv (0 : Int32), .unset, .unset, .unset, .unset, .unset] [(.int ((((l2 - b1) - (2 : Int32)) - b20) - b21))] _
        refine XS.istore X21.here hx rfl (hb hby at_106) rfl (l' := #[iv i1, .val (.long j2), .second, iv i3, iv i4, iv l2, iv (l2 - b1), iv n1, iv (((l2 - b1) - (2 : Int32)) - b20), iv ((((l2 - b1) - (2 : Int32)) - b20) - b21), iv (0 : Int32), iv (0 : Int32), .unset, .unset, .unset, .unset, .unset]) rfl ?_
        show own_S p e below T21 m 108 #[iv i1, .val (.long j2), .second, iv i3, iv i4, iv l2, iv (l2 - b1), iv n1, iv (((l2 - b1) - (2 : Int32)) - b20), iv ((((l2 - b1) - (2 : Int32)) - b20) - b21), iv (0 : Int32), iv (0 : Int32), .unset, .unset, .unset, .unset, .unset] [] _
        refine XS.iload X21.here hx rfl (hb hby at_108) rfl ?_
        show own_S p e below T21 m 110 #[iv i1, .val (.long j2), .second, iv i3, iv i4, iv l2, iv (l2 - b1), iv n1, iv (((l2 - b1) - (2 : Int32)) - b20), iv ((((l2 - b1) - (2 : Int32)) - b20) - b21), iv (0 : Int32), iv (0 : Int32), .unset, .unset, .unset, .unset, .unset] [(.int n1)] _
        refine XS.iconst X21.here hx rfl (hb hby at_110) ?_
        exact k)
      by_cases hc111_22 : n1 = (3 : Int32)
      ·  -- pc 111 yes
        have pre25 : ∀ t, own_S p e below T21 m 117 #[iv i1, .val (.long j2), .second, iv i3, iv i4, iv l2, iv (l2 - b1), iv n1, iv (((l2 - b1) - (2 : Int32)) - b20), iv ((((l2 - b1) - (2 : Int32)) - b20) - b21), iv (0 : Int32), iv (0 : Int32), .unset, .unset, .unset, .unset, .unset] [(.int (2 : Int32)), (.int ((((l2 - b1) - (2 : Int32)) - b20) - b21))] t → Steps p.tables e below (s₁.setTop (entryFrame m #[(.int i1), (.long j2), (.int i3), (.int i4)] maxLocals)) t := fun t k => pre23 t (by
          show own_S p e below T21 m 111 #[iv i1, .val (.long j2), .second, iv i3, iv i4, iv l2, iv (l2 - b1), iv n1, iv (((l2 - b1) - (2 : Int32)) - b20), iv ((((l2 - b1) - (2 : Int32)) - b20) - b21), iv (0 : Int32), iv (0 : Int32), .unset, .unset, .unset, .unset, .unset] [(.int (3 : Int32)), (.int n1)] _
          refine XS.icmpNo X21.here hx rfl (hb hby at_111) rfl (teq hc111_22).2 ?_
          show own_S p e below T21 m 114 #[iv i1, .val (.long j2), .second, iv i3, iv i4, iv l2, iv (l2 - b1), iv n1, iv (((l2 - b1) - (2 : Int32)) - b20), iv ((((l2 - b1) - (2 : Int32)) - b20) - b21), iv (0 : Int32), iv (0 : Int32), .unset, .unset, .unset, .unset, .unset] [] _
          refine XS.iload X21.here hx rfl (hb hby at_114) rfl ?_
          show own_S p e below T21 m 116 #[iv i1, .val (.long j2), .second, iv i3, iv i4, iv l2, iv (l2 - b1), iv n1, iv (((l2 - b1) - (2 : Int32)) - b20), iv ((((l2 - b1) - (2 : Int32)) - b20) - b21), iv (0 : Int32), iv (0 : Int32), .unset, .unset, .unset, .unset, .unset] [(.int ((((l2 - b1) - (2 : Int32)) - b20) - b21))] _
          refine XS.iconst X21.here hx rfl (hb hby at_116) ?_
          exact k)
        by_cases hc117_24 : ((((l2 - b1) - (2 : Int32)) - b20) - b21) < (2 : Int32)
        ·  -- pc 117 yes
          have pre26 : ∀ t, own_S p e below T21 m 166 #[iv i1, .val (.long j2), .second, iv i3, iv i4, iv l2, iv (l2 - b1), iv (2 : Int32), iv (((l2 - b1) - (2 : Int32)) - b20), iv ((((l2 - b1) - (2 : Int32)) - b20) - b21), iv (0 : Int32), iv (0 : Int32), .unset, .unset, .unset, .unset, .unset] [] t → Steps p.tables e below (s₁.setTop (entryFrame m #[(.int i1), (.long j2), (.int i3), (.int i4)] maxLocals)) t := fun t k => pre25 t (by
            show own_S p e below T21 m 117 #[iv i1, .val (.long j2), .second, iv i3, iv i4, iv l2, iv (l2 - b1), iv n1, iv (((l2 - b1) - (2 : Int32)) - b20), iv ((((l2 - b1) - (2 : Int32)) - b20) - b21), iv (0 : Int32), iv (0 : Int32), .unset, .unset, .unset, .unset, .unset] [(.int (2 : Int32)), (.int ((((l2 - b1) - (2 : Int32)) - b20) - b21))] _
            refine XS.icmpNo X21.here hx rfl (hb hby at_117) rfl (tlt hc117_24).2.1 ?_
            show own_S p e below T21 m 120 #[iv i1, .val (.long j2), .second, iv i3, iv i4, iv l2, iv (l2 - b1), iv n1, iv (((l2 - b1) - (2 : Int32)) - b20), iv ((((l2 - b1) - (2 : Int32)) - b20) - b21), iv (0 : Int32), iv (0 : Int32), .unset, .unset, .unset, .unset, .unset] [] _
            refine XS.iconst X21.here hx rfl (hb hby at_120) ?_
            show own_S p e below T21 m 121 #[iv i1, .val (.long j2), .second, iv i3, iv i4, iv l2, iv (l2 - b1), iv n1, iv (((l2 - b1) - (2 : Int32)) - b20), iv ((((l2 - b1) - (2 : Int32)) - b20) - b21), iv (0 : Int32), iv (0 : Int32), .unset, .unset, .unset, .unset, .unset] [(.int (2 : Int32))] _
            refine XS.istore X21.here hx rfl (hb hby at_121) rfl (l' := #[iv i1, .val (.long j2), .second, iv i3, iv i4, iv l2, iv (l2 - b1), iv (2 : Int32), iv (((l2 - b1) - (2 : Int32)) - b20), iv ((((l2 - b1) - (2 : Int32)) - b20) - b21), iv (0 : Int32), iv (0 : Int32), .unset, .unset, .unset, .unset, .unset]) rfl ?_
            show own_S p e below T21 m 123 #[iv i1, .val (.long j2), .second, iv i3, iv i4, iv l2, iv (l2 - b1), iv (2 : Int32), iv (((l2 - b1) - (2 : Int32)) - b20), iv ((((l2 - b1) - (2 : Int32)) - b20) - b21), iv (0 : Int32), iv (0 : Int32), .unset, .unset, .unset, .unset, .unset] [] _
            refine XS.iload X21.here hx rfl (hb hby at_123) rfl ?_
            show own_S p e below T21 m 125 #[iv i1, .val (.long j2), .second, iv i3, iv i4, iv l2, iv (l2 - b1), iv (2 : Int32), iv (((l2 - b1) - (2 : Int32)) - b20), iv ((((l2 - b1) - (2 : Int32)) - b20) - b21), iv (0 : Int32), iv (0 : Int32), .unset, .unset, .unset, .unset, .unset] [(.int (2 : Int32))] _
            refine XS.iconst X21.here hx rfl (hb hby at_125) ?_
            show own_S p e below T21 m 126 #[iv i1, .val (.long j2), .second, iv i3, iv i4, iv l2, iv (l2 - b1), iv (2 : Int32), iv (((l2 - b1) - (2 : Int32)) - b20), iv ((((l2 - b1) - (2 : Int32)) - b20) - b21), iv (0 : Int32), iv (0 : Int32), .unset, .unset, .unset, .unset, .unset] [(.int (3 : Int32)), (.int (2 : Int32))] _
            refine XS.icmpYes X21.here hx rfl (pc0 := 126) (pc' := 166) rfl (hb hby at_126) rfl (feq (by decide : ¬ ((2 : Int32) = (3 : Int32)))).2 (by decide) (by decide) ?_
            exact k)
          exact ⟨T21, _, X21, e21, N21, (2 : Int32), (((l2 - b1) - (2 : Int32)) - b20), ((((l2 - b1) - (2 : Int32)) - b20) - b21), (0 : Int32), (0 : Int32), (Or.inr (Or.inl rfl)), pre26⟩
        ·  -- pc 117 no
          obtain ⟨_, _, ⟨T27, L27, k27, n27⟩, -, X27, ⟨Lc27, hQ27, l27, y27, z27⟩, st27⟩ := Jvm.LawKit.callS X21 hx (y := (⟨"java/lang/Math", "min", "(II)I"⟩ : MethodName)) hown (mvT hZ (hw _ (List.mem_of_getElem? (i := 2) rfl))) (mvT hZ (hw _ (List.mem_of_getElem? (i := 3) rfl))) (mvT hZ (hw _ (List.mem_of_getElem? (i := 4) rfl))) (mvT hZ (hw _ (List.mem_of_getElem? (i := 5) rfl))) (by decide) (backOf (W := 1) (rm1 l Z a0 hw [] ((((j2.toUInt64 >>> ((48 : Int32) &&& 0x3f).toInt64.toUInt64).toInt64) &&& (65535 : Int64)).toInt32) (((((l2 - b1) - (2 : Int32)) - b20) - b21) - (2 : Int32)) h0 n0 Z0 ) hZ (hw _ (List.mem_of_getElem? (i := 5) rfl)) (hw _ (List.mem_of_getElem? (i := 4) rfl)) (by decide) (by decide)) (g := (mkF m 146 #[iv i1, .val (.long j2), .second, iv i3, iv i4, iv l2, iv (l2 - b1), iv n1, iv (((l2 - b1) - (2 : Int32)) - b20), iv ((((l2 - b1) - (2 : Int32)) - b20) - b21), iv (0 : Int32), iv (0 : Int32), .unset, .unset, .unset, .unset, .unset] [(.int (((((l2 - b1) - (2 : Int32)) - b20) - b21) - (2 : Int32))), (.int ((((j2.toUInt64 >>> ((48 : Int32) &&& 0x3f).toInt64.toUInt64).toInt64) &&& (65535 : Int64)).toInt32)), (.int (((((l2 - b1) - (2 : Int32)) - b20) - b21) - (2 : Int32)))])) rfl (by rw [hml]; rfl) (argsL := [(.int ((((j2.toUInt64 >>> ((48 : Int32) &&& 0x3f).toInt64.toUInt64).toInt64) &&& (65535 : Int64)).toInt32)), (.int (((((l2 - b1) - (2 : Int32)) - b20) - b21) - (2 : Int32)))]) (rest := [(.int (((((l2 - b1) - (2 : Int32)) - b20) - b21) - (2 : Int32)))]) (lenOf pd_0 rfl) rfl (by show 2 * 0 + _ ≤ _; exact Nat.le_of_eq rfl) (hb hby at_146) (fun _ _ => ⟨rfl, e21, (by decide : 0 + 0 ≤ _), (by decide : 0 + 0 ≤ _)⟩)
          dsimp only [Pt.U, Pt.locs, Pt.cells, Pt.slots] at X27 l27 y27 z27 st27 hQ27
          subst l27 y27 z27
          obtain ⟨b27, rfl, N27q, e27q⟩ := hQ27
          have N27 := Fr.app N21 N27q
          have e27 : T27.heap = h0 := e27q
          obtain ⟨_, _, ⟨T28, L28, k28, n28⟩, -, X28, ⟨Lc28, hQ28, l28, y28, z28⟩, st28⟩ := Jvm.LawKit.callS X27 hx (y := (⟨"java/lang/Math", "min", "(II)I"⟩ : MethodName)) hown (mvT hZ (hw _ (List.mem_of_getElem? (i := 2) rfl))) (mvT hZ (hw _ (List.mem_of_getElem? (i := 3) rfl))) (mvT hZ (hw _ (List.mem_of_getElem? (i := 4) rfl))) (mvT hZ (hw _ (List.mem_of_getElem? (i := 5) rfl))) (by decide) (backOf (W := 1) (rm1 l Z a0 hw [] (i3 &&& (65535 : Int32)) ((((((l2 - b1) - (2 : Int32)) - b20) - b21) - (2 : Int32)) - b27) h0 n0 Z0 ) hZ (hw _ (List.mem_of_getElem? (i := 5) rfl)) (hw _ (List.mem_of_getElem? (i := 4) rfl)) (by decide) (by decide)) (g := (mkF m 160 #[iv i1, .val (.long j2), .second, iv i3, iv i4, iv l2, iv (l2 - b1), iv n1, iv (((l2 - b1) - (2 : Int32)) - b20), iv ((((l2 - b1) - (2 : Int32)) - b20) - b21), iv ((((((l2 - b1) - (2 : Int32)) - b20) - b21) - (2 : Int32)) - b27), iv (0 : Int32), .unset, .unset, .unset, .unset, .unset] [(.int ((((((l2 - b1) - (2 : Int32)) - b20) - b21) - (2 : Int32)) - b27)), (.int (i3 &&& (65535 : Int32))), (.int ((((((l2 - b1) - (2 : Int32)) - b20) - b21) - (2 : Int32)) - b27))])) rfl (by rw [hml]; rfl) (argsL := [(.int (i3 &&& (65535 : Int32))), (.int ((((((l2 - b1) - (2 : Int32)) - b20) - b21) - (2 : Int32)) - b27))]) (rest := [(.int ((((((l2 - b1) - (2 : Int32)) - b20) - b21) - (2 : Int32)) - b27))]) (lenOf pd_0 rfl) rfl (by show 2 * 0 + _ ≤ _; exact Nat.le_of_eq rfl) (hb hby at_160) (fun _ _ => ⟨rfl, e27, (by decide : 0 + 0 ≤ _), (by decide : 0 + 0 ≤ _)⟩)
          dsimp only [Pt.U, Pt.locs, Pt.cells, Pt.slots] at X28 l28 y28 z28 st28 hQ28
          subst l28 y28 z28
          obtain ⟨b28, rfl, N28q, e28q⟩ := hQ28
          have N28 := Fr.app N27 N28q
          have e28 : T28.heap = h0 := e28q
          have pre29 : ∀ t, own_S p e below T28 m 166 #[iv i1, .val (.long j2), .second, iv i3, iv i4, iv l2, iv (l2 - b1), iv n1, iv (((l2 - b1) - (2 : Int32)) - b20), iv ((((l2 - b1) - (2 : Int32)) - b20) - b21), iv ((((((l2 - b1) - (2 : Int32)) - b20) - b21) - (2 : Int32)) - b27), iv (((((((l2 - b1) - (2 : Int32)) - b20) - b21) - (2 : Int32)) - b27) - b28), .unset, .unset, .unset, .unset, .unset] [] t → Steps p.tables e below (s₁.setTop (entryFrame m #[(.int i1), (.long j2), (.int i3), (.int i4)] maxLocals)) t := fun t k => pre25 t (by
            show own_S p e below T21 m 117 #[iv i1, .val (.long j2), .second, iv i3, iv i4, iv l2, iv (l2 - b1), iv n1, iv (((l2 - b1) - (2 : Int32)) - b20), iv ((((l2 - b1) - (2 : Int32)) - b20) - b21), iv (0 : Int32), iv (0 : Int32), .unset, .unset, .unset, .unset, .unset] [(.int (2 : Int32)), (.int ((((l2 - b1) - (2 : Int32)) - b20) - b21))] _
            refine XS.icmpYes X21.here hx rfl (pc0 := 117) (pc' := 123) rfl (hb hby at_117) rfl (flt hc117_24).2.1 (by decide) (by decide) ?_
            show own_S p e below T21 m 123 #[iv i1, .val (.long j2), .second, iv i3, iv i4, iv l2, iv (l2 - b1), iv n1, iv (((l2 - b1) - (2 : Int32)) - b20), iv ((((l2 - b1) - (2 : Int32)) - b20) - b21), iv (0 : Int32), iv (0 : Int32), .unset, .unset, .unset, .unset, .unset] [] _
            refine XS.iload X21.here hx rfl (hb hby at_123) rfl ?_
            show own_S p e below T21 m 125 #[iv i1, .val (.long j2), .second, iv i3, iv i4, iv l2, iv (l2 - b1), iv n1, iv (((l2 - b1) - (2 : Int32)) - b20), iv ((((l2 - b1) - (2 : Int32)) - b20) - b21), iv (0 : Int32), iv (0 : Int32), .unset, .unset, .unset, .unset, .unset] [(.int n1)] _
            refine XS.iconst X21.here hx rfl (hb hby at_125) ?_
            show own_S p e below T21 m 126 #[iv i1, .val (.long j2), .second, iv i3, iv i4, iv l2, iv (l2 - b1), iv n1, iv (((l2 - b1) - (2 : Int32)) - b20), iv ((((l2 - b1) - (2 : Int32)) - b20) - b21), iv (0 : Int32), iv (0 : Int32), .unset, .unset, .unset, .unset, .unset] [(.int (3 : Int32)), (.int n1)] _
            refine XS.icmpNo X21.here hx rfl (hb hby at_126) rfl (teq hc111_22).2 ?_
            show own_S p e below T21 m 129 #[iv i1, .val (.long j2), .second, iv i3, iv i4, iv l2, iv (l2 - b1), iv n1, iv (((l2 - b1) - (2 : Int32)) - b20), iv ((((l2 - b1) - (2 : Int32)) - b20) - b21), iv (0 : Int32), iv (0 : Int32), .unset, .unset, .unset, .unset, .unset] [] _
            refine XS.iload X21.here hx rfl (hb hby at_129) rfl ?_
            show own_S p e below T21 m 131 #[iv i1, .val (.long j2), .second, iv i3, iv i4, iv l2, iv (l2 - b1), iv n1, iv (((l2 - b1) - (2 : Int32)) - b20), iv ((((l2 - b1) - (2 : Int32)) - b20) - b21), iv (0 : Int32), iv (0 : Int32), .unset, .unset, .unset, .unset, .unset] [(.int ((((l2 - b1) - (2 : Int32)) - b20) - b21))] _
            refine XS.iconst X21.here hx rfl (hb hby at_131) ?_
            show own_S p e below T21 m 132 #[iv i1, .val (.long j2), .second, iv i3, iv i4, iv l2, iv (l2 - b1), iv n1, iv (((l2 - b1) - (2 : Int32)) - b20), iv ((((l2 - b1) - (2 : Int32)) - b20) - b21), iv (0 : Int32), iv (0 : Int32), .unset, .unset, .unset, .unset, .unset] [(.int (2 : Int32)), (.int ((((l2 - b1) - (2 : Int32)) - b20) - b21))] _
            refine XS.isub X21.here hx rfl (hb hby at_132) rfl ?_
            show own_S p e below T21 m 133 #[iv i1, .val (.long j2), .second, iv i3, iv i4, iv l2, iv (l2 - b1), iv n1, iv (((l2 - b1) - (2 : Int32)) - b20), iv ((((l2 - b1) - (2 : Int32)) - b20) - b21), iv (0 : Int32), iv (0 : Int32), .unset, .unset, .unset, .unset, .unset] [(.int (((((l2 - b1) - (2 : Int32)) - b20) - b21) - (2 : Int32)))] _
            refine XS.lloadN X21.here hx rfl (hb hby at_133) rfl ?_
            show own_S p e below T21 m 134 #[iv i1, .val (.long j2), .second, iv i3, iv i4, iv l2, iv (l2 - b1), iv n1, iv (((l2 - b1) - (2 : Int32)) - b20), iv ((((l2 - b1) - (2 : Int32)) - b20) - b21), iv (0 : Int32), iv (0 : Int32), .unset, .unset, .unset, .unset, .unset] [(.long j2), (.int (((((l2 - b1) - (2 : Int32)) - b20) - b21) - (2 : Int32)))] _
            refine XS.bipush X21.here hx rfl (hb hby at_134) ?_
            show own_S p e below T21 m 136 #[iv i1, .val (.long j2), .second, iv i3, iv i4, iv l2, iv (l2 - b1), iv n1, iv (((l2 - b1) - (2 : Int32)) - b20), iv ((((l2 - b1) - (2 : Int32)) - b20) - b21), iv (0 : Int32), iv (0 : Int32), .unset, .unset, .unset, .unset, .unset] [(.int (48 : Int32)), (.long j2), (.int (((((l2 - b1) - (2 : Int32)) - b20) - b21) - (2 : Int32)))] _
            refine XS.lushr X21.here hx rfl (hb hby at_136) rfl ?_
            show own_S p e below T21 m 137 #[iv i1, .val (.long j2), .second, iv i3, iv i4, iv l2, iv (l2 - b1), iv n1, iv (((l2 - b1) - (2 : Int32)) - b20), iv ((((l2 - b1) - (2 : Int32)) - b20) - b21), iv (0 : Int32), iv (0 : Int32), .unset, .unset, .unset, .unset, .unset] [(.long ((j2.toUInt64 >>> ((48 : Int32) &&& 0x3f).toInt64.toUInt64).toInt64)), (.int (((((l2 - b1) - (2 : Int32)) - b20) - b21) - (2 : Int32)))] _
            refine X21.ldc2Long hx hown (mvT hZ (hw _ (List.mem_of_getElem? (i := 1) rfl))) (g := (mkF m 137 #[iv i1, .val (.long j2), .second, iv i3, iv i4, iv l2, iv (l2 - b1), iv n1, iv (((l2 - b1) - (2 : Int32)) - b20), iv ((((l2 - b1) - (2 : Int32)) - b20) - b21), iv (0 : Int32), iv (0 : Int32), .unset, .unset, .unset, .unset, .unset] [(.long ((j2.toUInt64 >>> ((48 : Int32) &&& 0x3f).toInt64.toUInt64).toInt64)), (.int (((((l2 - b1) - (2 : Int32)) - b20) - b21) - (2 : Int32)))])) rfl (hb hby at_137) _ ?_
            show own_S p e below T21 m 140 #[iv i1, .val (.long j2), .second, iv i3, iv i4, iv l2, iv (l2 - b1), iv n1, iv (((l2 - b1) - (2 : Int32)) - b20), iv ((((l2 - b1) - (2 : Int32)) - b20) - b21), iv (0 : Int32), iv (0 : Int32), .unset, .unset, .unset, .unset, .unset] [(.long (65535 : Int64)), (.long ((j2.toUInt64 >>> ((48 : Int32) &&& 0x3f).toInt64.toUInt64).toInt64)), (.int (((((l2 - b1) - (2 : Int32)) - b20) - b21) - (2 : Int32)))] _
            refine XS.land X21.here hx rfl (hb hby at_140) rfl ?_
            show own_S p e below T21 m 141 #[iv i1, .val (.long j2), .second, iv i3, iv i4, iv l2, iv (l2 - b1), iv n1, iv (((l2 - b1) - (2 : Int32)) - b20), iv ((((l2 - b1) - (2 : Int32)) - b20) - b21), iv (0 : Int32), iv (0 : Int32), .unset, .unset, .unset, .unset, .unset] [(.long (((j2.toUInt64 >>> ((48 : Int32) &&& 0x3f).toInt64.toUInt64).toInt64) &&& (65535 : Int64))), (.int (((((l2 - b1) - (2 : Int32)) - b20) - b21) - (2 : Int32)))] _
            refine XS.l2i X21.here hx rfl (hb hby at_141) rfl ?_
            show own_S p e below T21 m 142 #[iv i1, .val (.long j2), .second, iv i3, iv i4, iv l2, iv (l2 - b1), iv n1, iv (((l2 - b1) - (2 : Int32)) - b20), iv ((((l2 - b1) - (2 : Int32)) - b20) - b21), iv (0 : Int32), iv (0 : Int32), .unset, .unset, .unset, .unset, .unset] [(.int ((((j2.toUInt64 >>> ((48 : Int32) &&& 0x3f).toInt64.toUInt64).toInt64) &&& (65535 : Int64)).toInt32)), (.int (((((l2 - b1) - (2 : Int32)) - b20) - b21) - (2 : Int32)))] _
            refine XS.iload X21.here hx rfl (hb hby at_142) rfl ?_
            show own_S p e below T21 m 144 #[iv i1, .val (.long j2), .second, iv i3, iv i4, iv l2, iv (l2 - b1), iv n1, iv (((l2 - b1) - (2 : Int32)) - b20), iv ((((l2 - b1) - (2 : Int32)) - b20) - b21), iv (0 : Int32), iv (0 : Int32), .unset, .unset, .unset, .unset, .unset] [(.int ((((l2 - b1) - (2 : Int32)) - b20) - b21)), (.int ((((j2.toUInt64 >>> ((48 : Int32) &&& 0x3f).toInt64.toUInt64).toInt64) &&& (65535 : Int64)).toInt32)), (.int (((((l2 - b1) - (2 : Int32)) - b20) - b21) - (2 : Int32)))] _
            refine XS.iconst X21.here hx rfl (hb hby at_144) ?_
            show own_S p e below T21 m 145 #[iv i1, .val (.long j2), .second, iv i3, iv i4, iv l2, iv (l2 - b1), iv n1, iv (((l2 - b1) - (2 : Int32)) - b20), iv ((((l2 - b1) - (2 : Int32)) - b20) - b21), iv (0 : Int32), iv (0 : Int32), .unset, .unset, .unset, .unset, .unset] [(.int (2 : Int32)), (.int ((((l2 - b1) - (2 : Int32)) - b20) - b21)), (.int ((((j2.toUInt64 >>> ((48 : Int32) &&& 0x3f).toInt64.toUInt64).toInt64) &&& (65535 : Int64)).toInt32)), (.int (((((l2 - b1) - (2 : Int32)) - b20) - b21) - (2 : Int32)))] _
            refine XS.isub X21.here hx rfl (hb hby at_145) rfl ?_
            show own_S p e below T21 m 146 #[iv i1, .val (.long j2), .second, iv i3, iv i4, iv l2, iv (l2 - b1), iv n1, iv (((l2 - b1) - (2 : Int32)) - b20), iv ((((l2 - b1) - (2 : Int32)) - b20) - b21), iv (0 : Int32), iv (0 : Int32), .unset, .unset, .unset, .unset, .unset] [(.int (((((l2 - b1) - (2 : Int32)) - b20) - b21) - (2 : Int32))), (.int ((((j2.toUInt64 >>> ((48 : Int32) &&& 0x3f).toInt64.toUInt64).toInt64) &&& (65535 : Int64)).toInt32)), (.int (((((l2 - b1) - (2 : Int32)) - b20) - b21) - (2 : Int32)))] _
            refine st27 _ ?_
            show own_S p e below T27 m 149 #[iv i1, .val (.long j2), .second, iv i3, iv i4, iv l2, iv (l2 - b1), iv n1, iv (((l2 - b1) - (2 : Int32)) - b20), iv ((((l2 - b1) - (2 : Int32)) - b20) - b21), iv (0 : Int32), iv (0 : Int32), .unset, .unset, .unset, .unset, .unset] [(.int b27), (.int (((((l2 - b1) - (2 : Int32)) - b20) - b21) - (2 : Int32)))] _
            refine XS.isub X27.here hx rfl (hb hby at_149) rfl ?_
            show own_S p e below T27 m 150 #[iv i1, .val (.long j2), .second, iv i3, iv i4, iv l2, iv (l2 - b1), iv n1, iv (((l2 - b1) - (2 : Int32)) - b20), iv ((((l2 - b1) - (2 : Int32)) - b20) - b21), iv (0 : Int32), iv (0 : Int32), .unset, .unset, .unset, .unset, .unset] [(.int ((((((l2 - b1) - (2 : Int32)) - b20) - b21) - (2 : Int32)) - b27))] _
            refine XS.istore X27.here hx rfl (hb hby at_150) rfl (l' := #[iv i1, .val (.long j2), .second, iv i3, iv i4, iv l2, iv (l2 - b1), iv n1, iv (((l2 - b1) - (2 : Int32)) - b20), iv ((((l2 - b1) - (2 : Int32)) - b20) - b21), iv ((((((l2 - b1) - (2 : Int32)) - b20) - b21) - (2 : Int32)) - b27), iv (0 : Int32), .unset, .unset, .unset, .unset, .unset]) rfl ?_
            show own_S p e below T27 m 152 #[iv i1, .val (.long j2), .second, iv i3, iv i4, iv l2, iv (l2 - b1), iv n1, iv (((l2 - b1) - (2 : Int32)) - b20), iv ((((l2 - b1) - (2 : Int32)) - b20) - b21), iv ((((((l2 - b1) - (2 : Int32)) - b20) - b21) - (2 : Int32)) - b27), iv (0 : Int32), .unset, .unset, .unset, .unset, .unset] [] _
            refine XS.iload X27.here hx rfl (hb hby at_152) rfl ?_
            show own_S p e below T27 m 154 #[iv i1, .val (.long j2), .second, iv i3, iv i4, iv l2, iv (l2 - b1), iv n1, iv (((l2 - b1) - (2 : Int32)) - b20), iv ((((l2 - b1) - (2 : Int32)) - b20) - b21), iv ((((((l2 - b1) - (2 : Int32)) - b20) - b21) - (2 : Int32)) - b27), iv (0 : Int32), .unset, .unset, .unset, .unset, .unset] [(.int ((((((l2 - b1) - (2 : Int32)) - b20) - b21) - (2 : Int32)) - b27))] _
            refine XS.iloadN X27.here hx rfl (hb hby at_154) rfl ?_
            show own_S p e below T27 m 155 #[iv i1, .val (.long j2), .second, iv i3, iv i4, iv l2, iv (l2 - b1), iv n1, iv (((l2 - b1) - (2 : Int32)) - b20), iv ((((l2 - b1) - (2 : Int32)) - b20) - b21), iv ((((((l2 - b1) - (2 : Int32)) - b20) - b21) - (2 : Int32)) - b27), iv (0 : Int32), .unset, .unset, .unset, .unset, .unset] [(.int i3), (.int ((((((l2 - b1) - (2 : Int32)) - b20) - b21) - (2 : Int32)) - b27))] _
            refine X27.ldcInt hx hown (mvT hZ (hw _ (List.mem_of_getElem? (i := 0) rfl))) (g := (mkF m 155 #[iv i1, .val (.long j2), .second, iv i3, iv i4, iv l2, iv (l2 - b1), iv n1, iv (((l2 - b1) - (2 : Int32)) - b20), iv ((((l2 - b1) - (2 : Int32)) - b20) - b21), iv ((((((l2 - b1) - (2 : Int32)) - b20) - b21) - (2 : Int32)) - b27), iv (0 : Int32), .unset, .unset, .unset, .unset, .unset] [(.int i3), (.int ((((((l2 - b1) - (2 : Int32)) - b20) - b21) - (2 : Int32)) - b27))])) rfl (hb hby at_155) _ ?_
            show own_S p e below T27 m 157 #[iv i1, .val (.long j2), .second, iv i3, iv i4, iv l2, iv (l2 - b1), iv n1, iv (((l2 - b1) - (2 : Int32)) - b20), iv ((((l2 - b1) - (2 : Int32)) - b20) - b21), iv ((((((l2 - b1) - (2 : Int32)) - b20) - b21) - (2 : Int32)) - b27), iv (0 : Int32), .unset, .unset, .unset, .unset, .unset] [(.int (65535 : Int32)), (.int i3), (.int ((((((l2 - b1) - (2 : Int32)) - b20) - b21) - (2 : Int32)) - b27))] _
            refine XS.iand X27.here hx rfl (hb hby at_157) rfl ?_
            show own_S p e below T27 m 158 #[iv i1, .val (.long j2), .second, iv i3, iv i4, iv l2, iv (l2 - b1), iv n1, iv (((l2 - b1) - (2 : Int32)) - b20), iv ((((l2 - b1) - (2 : Int32)) - b20) - b21), iv ((((((l2 - b1) - (2 : Int32)) - b20) - b21) - (2 : Int32)) - b27), iv (0 : Int32), .unset, .unset, .unset, .unset, .unset] [(.int (i3 &&& (65535 : Int32))), (.int ((((((l2 - b1) - (2 : Int32)) - b20) - b21) - (2 : Int32)) - b27))] _
            refine XS.iload X27.here hx rfl (hb hby at_158) rfl ?_
            show own_S p e below T27 m 160 #[iv i1, .val (.long j2), .second, iv i3, iv i4, iv l2, iv (l2 - b1), iv n1, iv (((l2 - b1) - (2 : Int32)) - b20), iv ((((l2 - b1) - (2 : Int32)) - b20) - b21), iv ((((((l2 - b1) - (2 : Int32)) - b20) - b21) - (2 : Int32)) - b27), iv (0 : Int32), .unset, .unset, .unset, .unset, .unset] [(.int ((((((l2 - b1) - (2 : Int32)) - b20) - b21) - (2 : Int32)) - b27)), (.int (i3 &&& (65535 : Int32))), (.int ((((((l2 - b1) - (2 : Int32)) - b20) - b21) - (2 : Int32)) - b27))] _
            refine st28 _ ?_
            show own_S p e below T28 m 163 #[iv i1, .val (.long j2), .second, iv i3, iv i4, iv l2, iv (l2 - b1), iv n1, iv (((l2 - b1) - (2 : Int32)) - b20), iv ((((l2 - b1) - (2 : Int32)) - b20) - b21), iv ((((((l2 - b1) - (2 : Int32)) - b20) - b21) - (2 : Int32)) - b27), iv (0 : Int32), .unset, .unset, .unset, .unset, .unset] [(.int b28), (.int ((((((l2 - b1) - (2 : Int32)) - b20) - b21) - (2 : Int32)) - b27))] _
            refine XS.isub X28.here hx rfl (hb hby at_163) rfl ?_
            show own_S p e below T28 m 164 #[iv i1, .val (.long j2), .second, iv i3, iv i4, iv l2, iv (l2 - b1), iv n1, iv (((l2 - b1) - (2 : Int32)) - b20), iv ((((l2 - b1) - (2 : Int32)) - b20) - b21), iv ((((((l2 - b1) - (2 : Int32)) - b20) - b21) - (2 : Int32)) - b27), iv (0 : Int32), .unset, .unset, .unset, .unset, .unset] [(.int (((((((l2 - b1) - (2 : Int32)) - b20) - b21) - (2 : Int32)) - b27) - b28))] _
            refine XS.istore X28.here hx rfl (hb hby at_164) rfl (l' := #[iv i1, .val (.long j2), .second, iv i3, iv i4, iv l2, iv (l2 - b1), iv n1, iv (((l2 - b1) - (2 : Int32)) - b20), iv ((((l2 - b1) - (2 : Int32)) - b20) - b21), iv ((((((l2 - b1) - (2 : Int32)) - b20) - b21) - (2 : Int32)) - b27), iv (((((((l2 - b1) - (2 : Int32)) - b20) - b21) - (2 : Int32)) - b27) - b28), .unset, .unset, .unset, .unset, .unset]) rfl ?_
            exact k)
          exact ⟨T28, _, X28, e28, N28, n1, (((l2 - b1) - (2 : Int32)) - b20), ((((l2 - b1) - (2 : Int32)) - b20) - b21), ((((((l2 - b1) - (2 : Int32)) - b20) - b21) - (2 : Int32)) - b27), (((((((l2 - b1) - (2 : Int32)) - b20) - b21) - (2 : Int32)) - b27) - b28), h_n1, pre29⟩
      ·  -- pc 111 no
        have pre30 : ∀ t, own_S p e below T21 m 166 #[iv i1, .val (.long j2), .second, iv i3, iv i4, iv l2, iv (l2 - b1), iv n1, iv (((l2 - b1) - (2 : Int32)) - b20), iv ((((l2 - b1) - (2 : Int32)) - b20) - b21), iv (0 : Int32), iv (0 : Int32), .unset, .unset, .unset, .unset, .unset] [] t → Steps p.tables e below (s₁.setTop (entryFrame m #[(.int i1), (.long j2), (.int i3), (.int i4)] maxLocals)) t := fun t k => pre23 t (by
          show own_S p e below T21 m 111 #[iv i1, .val (.long j2), .second, iv i3, iv i4, iv l2, iv (l2 - b1), iv n1, iv (((l2 - b1) - (2 : Int32)) - b20), iv ((((l2 - b1) - (2 : Int32)) - b20) - b21), iv (0 : Int32), iv (0 : Int32), .unset, .unset, .unset, .unset, .unset] [(.int (3 : Int32)), (.int n1)] _
          refine XS.icmpYes X21.here hx rfl (pc0 := 111) (pc' := 123) rfl (hb hby at_111) rfl (feq hc111_22).2 (by decide) (by decide) ?_
          show own_S p e below T21 m 123 #[iv i1, .val (.long j2), .second, iv i3, iv i4, iv l2, iv (l2 - b1), iv n1, iv (((l2 - b1) - (2 : Int32)) - b20), iv ((((l2 - b1) - (2 : Int32)) - b20) - b21), iv (0 : Int32), iv (0 : Int32), .unset, .unset, .unset, .unset, .unset] [] _
          refine XS.iload X21.here hx rfl (hb hby at_123) rfl ?_
          show own_S p e below T21 m 125 #[iv i1, .val (.long j2), .second, iv i3, iv i4, iv l2, iv (l2 - b1), iv n1, iv (((l2 - b1) - (2 : Int32)) - b20), iv ((((l2 - b1) - (2 : Int32)) - b20) - b21), iv (0 : Int32), iv (0 : Int32), .unset, .unset, .unset, .unset, .unset] [(.int n1)] _
          refine XS.iconst X21.here hx rfl (hb hby at_125) ?_
          show own_S p e below T21 m 126 #[iv i1, .val (.long j2), .second, iv i3, iv i4, iv l2, iv (l2 - b1), iv n1, iv (((l2 - b1) - (2 : Int32)) - b20), iv ((((l2 - b1) - (2 : Int32)) - b20) - b21), iv (0 : Int32), iv (0 : Int32), .unset, .unset, .unset, .unset, .unset] [(.int (3 : Int32)), (.int n1)] _
          refine XS.icmpYes X21.here hx rfl (pc0 := 126) (pc' := 166) rfl (hb hby at_126) rfl (feq hc111_22).2 (by decide) (by decide) ?_
          exact k)
        exact ⟨T21, _, X21, e21, N21, n1, (((l2 - b1) - (2 : Int32)) - b20), ((((l2 - b1) - (2 : Int32)) - b20) - b21), (0 : Int32), (0 : Int32), h_n1, pre30⟩
  have pre31 : ∀ t, own_S p e below Tj11 m 177 #[iv i1, .val (.long j2), .second, iv i3, iv i4, iv l2, iv (l2 - b1), iv n2, iv l1, iv s1, iv l0, iv s0, iv ((((i4.toUInt32 >>> ((16 : Int32) &&& 31).toUInt32).toInt32) &&& (65535 : Int32)).toUInt32.toUInt16.toUInt32.toInt32), .unset, .unset, .unset, .unset] [] t → Steps p.tables e below (s₁.setTop (entryFrame m #[(.int i1), (.long j2), (.int i3), (.int i4)] maxLocals)) t := fun t k => prej11 t (by
    show own_S p e below Tj11 m 166 #[iv i1, .val (.long j2), .second, iv i3, iv i4, iv l2, iv (l2 - b1), iv n2, iv l1, iv s1, iv l0, iv s0, .unset, .unset, .unset, .unset, .unset] [] _
    refine XS.iload Xj11.here hx rfl (hb hby at_166) rfl ?_
    show own_S p e below Tj11 m 168 #[iv i1, .val (.long j2), .second, iv i3, iv i4, iv l2, iv (l2 - b1), iv n2, iv l1, iv s1, iv l0, iv s0, .unset, .unset, .unset, .unset, .unset] [(.int i4)] _
    refine XS.bipush Xj11.here hx rfl (hb hby at_168) ?_
    show own_S p e below Tj11 m 170 #[iv i1, .val (.long j2), .second, iv i3, iv i4, iv l2, iv (l2 - b1), iv n2, iv l1, iv s1, iv l0, iv s0, .unset, .unset, .unset, .unset, .unset] [(.int (16 : Int32)), (.int i4)] _
    refine XS.iushr Xj11.here hx rfl (hb hby at_170) rfl ?_
    show own_S p e below Tj11 m 171 #[iv i1, .val (.long j2), .second, iv i3, iv i4, iv l2, iv (l2 - b1), iv n2, iv l1, iv s1, iv l0, iv s0, .unset, .unset, .unset, .unset, .unset] [(.int ((i4.toUInt32 >>> ((16 : Int32) &&& 31).toUInt32).toInt32))] _
    refine Xj11.ldcInt hx hown (mvT hZ (hw _ (List.mem_of_getElem? (i := 0) rfl))) (g := (mkF m 171 #[iv i1, .val (.long j2), .second, iv i3, iv i4, iv l2, iv (l2 - b1), iv n2, iv l1, iv s1, iv l0, iv s0, .unset, .unset, .unset, .unset, .unset] [(.int ((i4.toUInt32 >>> ((16 : Int32) &&& 31).toUInt32).toInt32))])) rfl (hb hby at_171) _ ?_
    show own_S p e below Tj11 m 173 #[iv i1, .val (.long j2), .second, iv i3, iv i4, iv l2, iv (l2 - b1), iv n2, iv l1, iv s1, iv l0, iv s0, .unset, .unset, .unset, .unset, .unset] [(.int (65535 : Int32)), (.int ((i4.toUInt32 >>> ((16 : Int32) &&& 31).toUInt32).toInt32))] _
    refine XS.iand Xj11.here hx rfl (hb hby at_173) rfl ?_
    show own_S p e below Tj11 m 174 #[iv i1, .val (.long j2), .second, iv i3, iv i4, iv l2, iv (l2 - b1), iv n2, iv l1, iv s1, iv l0, iv s0, .unset, .unset, .unset, .unset, .unset] [(.int (((i4.toUInt32 >>> ((16 : Int32) &&& 31).toUInt32).toInt32) &&& (65535 : Int32)))] _
    refine XS.i2c Xj11.here hx rfl (hb hby at_174) rfl ?_
    show own_S p e below Tj11 m 175 #[iv i1, .val (.long j2), .second, iv i3, iv i4, iv l2, iv (l2 - b1), iv n2, iv l1, iv s1, iv l0, iv s0, .unset, .unset, .unset, .unset, .unset] [(.int ((((i4.toUInt32 >>> ((16 : Int32) &&& 31).toUInt32).toInt32) &&& (65535 : Int32)).toUInt32.toUInt16.toUInt32.toInt32))] _
    refine XS.istore Xj11.here hx rfl (hb hby at_175) rfl (l' := #[iv i1, .val (.long j2), .second, iv i3, iv i4, iv l2, iv (l2 - b1), iv n2, iv l1, iv s1, iv l0, iv s0, iv ((((i4.toUInt32 >>> ((16 : Int32) &&& 31).toUInt32).toInt32) &&& (65535 : Int32)).toUInt32.toUInt16.toUInt32.toInt32), .unset, .unset, .unset, .unset]) rfl ?_
    exact k)
  obtain ⟨gv, egv⟩ : ∃ z, z = ((((i4.toUInt32 >>> ((16 : Int32) &&& 31).toUInt32).toInt32) &&& (65535 : Int32)).toUInt32.toUInt16.toUInt32.toInt32) := ⟨_, rfl⟩
  rw [← egv] at pre31
  obtain ⟨T32, h32, k32, X32, e32, E32, A32, st32⟩ := newP Xj11 hx hZ (hw _ (List.mem_of_getElem? (i := 7) rfl)) ej11 (g := (mkF m 178 #[iv i1, .val (.long j2), .second, iv i3, iv i4, iv l2, iv (l2 - b1), iv n2, iv l1, iv s1, iv l0, iv s0, iv gv, .unset, .unset, .unset, .unset] [(.int (4 : Int32))])) rfl (hb hby at_178) rfl (by decide) (cap := 4) (by decide) (by decide) (by decide) (by decide)
  obtain ⟨b32, g32⟩ : ∃ z, z = h0.size := ⟨_, rfl⟩
  rw [← g32] at A32 st32
  have g_b32 : n0 ≤ b32 := Nat.le_trans Z0 (Nat.le_of_eq g32.symm)
  have sz_b32 : h0.size ≤ b32 := Nat.le_trans ((Keep.refl h0 [])).1 (Nat.le_of_eq g32.symm)
  have V_b32 : Arv Z h32 b32 k32 .char (4 : Int32) [(.int (0 : Int32)), (.int (0 : Int32)), (.int (0 : Int32)), (.int (0 : Int32))] (.int (0 : Int32)) := (Arv.new A32 (by decide)).pad (pad_rep [] (.int (0 : Int32)) 4)
  obtain ⟨cl33, Ar33, q33, S33, M33, H33, G33⟩ := V_b32
  have hin33 : ¬ ((0 : Int32) < 0 ∨ cl33.slots.size ≤ ((0 : Int32)).toNatClampNeg) := inb_of S33 ⟨by decide, by decide⟩
  obtain ⟨T33, h33, X33, e33, W33, st33⟩ := stC X32 hx hZ e32 Ar33 (j := (0 : Int32)) hin33 (g := (mkF m 184 #[iv i1, .val (.long j2), .second, iv i3, iv i4, iv l2, iv (l2 - b1), iv n2, iv l1, iv s1, iv l0, iv s0, iv gv, .unset, .unset, .unset, .unset] [(.int gv), (.int (0 : Int32)), (.ref b32), (.ref b32)])) rfl rfl (hb hby at_184)
  have V33 : Arv Z h33 b32 k32 .char (4 : Int32) [(.int (nar .char gv)), (.int (0 : Int32)), (.int (0 : Int32)), (.int (0 : Int32))] (.int (0 : Int32)) := Arv.set Ar33 q33 S33 M33 H33 G33 (fits_nar_char _) W33 0 rfl (Nat.le_of_ble_eq_true rfl)
  have N33 := Fr.snoc X33 Nj11 g_b32
  obtain ⟨cl34, Ar34, q34, S34, M34, H34, G34⟩ := V33
  have hin34 : ¬ ((1 : Int32) < 0 ∨ cl34.slots.size ≤ ((1 : Int32)).toNatClampNeg) := inb_of S34 ⟨by decide, by decide⟩
  obtain ⟨T34, h34, X34, e34, W34, st34⟩ := stC X33 hx hZ e33 Ar34 (j := (1 : Int32)) hin34 (g := (mkF m 189 #[iv i1, .val (.long j2), .second, iv i3, iv i4, iv l2, iv (l2 - b1), iv n2, iv l1, iv s1, iv l0, iv s0, iv gv, .unset, .unset, .unset, .unset] [(.int gv), (.int (1 : Int32)), (.ref b32), (.ref b32)])) rfl rfl (hb hby at_189)
  have V34 : Arv Z h34 b32 k32 .char (4 : Int32) [(.int (nar .char gv)), (.int (nar .char gv)), (.int (0 : Int32)), (.int (0 : Int32))] (.int (0 : Int32)) := Arv.set Ar34 q34 S34 M34 H34 G34 (fits_nar_char _) W34 1 rfl (Nat.le_of_ble_eq_true rfl)
  have N34 := Fr.snoc X34 N33 g_b32
  obtain ⟨cl35, Ar35, q35, S35, M35, H35, G35⟩ := V34
  have hin35 : ¬ ((2 : Int32) < 0 ∨ cl35.slots.size ≤ ((2 : Int32)).toNatClampNeg) := inb_of S35 ⟨by decide, by decide⟩
  obtain ⟨T35, h35, X35, e35, W35, st35⟩ := stC X34 hx hZ e34 Ar35 (j := (2 : Int32)) hin35 (g := (mkF m 194 #[iv i1, .val (.long j2), .second, iv i3, iv i4, iv l2, iv (l2 - b1), iv n2, iv l1, iv s1, iv l0, iv s0, iv gv, .unset, .unset, .unset, .unset] [(.int gv), (.int (2 : Int32)), (.ref b32), (.ref b32)])) rfl rfl (hb hby at_194)
  have V35 : Arv Z h35 b32 k32 .char (4 : Int32) [(.int (nar .char gv)), (.int (nar .char gv)), (.int (nar .char gv)), (.int (0 : Int32))] (.int (0 : Int32)) := Arv.set Ar35 q35 S35 M35 H35 G35 (fits_nar_char _) W35 2 rfl (Nat.le_of_ble_eq_true rfl)
  have N35 := Fr.snoc X35 N34 g_b32
  obtain ⟨cl36, Ar36, q36, S36, M36, H36, G36⟩ := V35
  have hin36 : ¬ ((3 : Int32) < 0 ∨ cl36.slots.size ≤ ((3 : Int32)).toNatClampNeg) := inb_of S36 ⟨by decide, by decide⟩
  obtain ⟨T36, h36, X36, e36, W36, st36⟩ := stC X35 hx hZ e35 Ar36 (j := (3 : Int32)) hin36 (g := (mkF m 199 #[iv i1, .val (.long j2), .second, iv i3, iv i4, iv l2, iv (l2 - b1), iv n2, iv l1, iv s1, iv l0, iv s0, iv gv, .unset, .unset, .unset, .unset] [(.int gv), (.int (3 : Int32)), (.ref b32), (.ref b32)])) rfl rfl (hb hby at_199)
  have V36 : Arv Z h36 b32 k32 .char (4 : Int32) [(.int (nar .char gv)), (.int (nar .char gv)), (.int (nar .char gv)), (.int (nar .char gv))] (.int (0 : Int32)) := Arv.set Ar36 q36 S36 M36 H36 G36 (fits_nar_char _) W36 3 rfl (Nat.le_of_ble_eq_true rfl)
  have N36 := Fr.snoc X36 N35 g_b32
  have Zs37 : n0 ≤ h36.size := (Nat.le_trans (Nat.le_trans (Nat.le_trans (Nat.le_trans (Nat.le_trans Z0 E32.1) (Keep.of_wr W33).1) (Keep.of_wr W34).1) (Keep.of_wr W35).1) (Keep.of_wr W36).1)
  obtain ⟨T38, h38, k38, X38, e38, E38, A38, st38⟩ := newP X36 hx hZ (hw _ (List.mem_of_getElem? (i := 7) rfl)) e36 (g := (mkF m 203 #[iv i1, .val (.long j2), .second, iv i3, iv i4, iv l2, iv (l2 - b1), iv n2, iv l1, iv s1, iv l0, iv s0, iv gv, rv b32, .unset, .unset, .unset] [(.int (4 : Int32))])) rfl (hb hby at_203) rfl (by decide) (cap := 4) (by decide) (by decide) (by decide) (by decide)
  obtain ⟨b38, g38⟩ : ∃ z, z = h36.size := ⟨_, rfl⟩
  rw [← g38] at A38 st38
  have g_b38 : n0 ≤ b38 := Nat.le_trans Zs37 (Nat.le_of_eq g38.symm)
  have sz_b38 : h0.size ≤ b38 := Nat.le_trans (((((((Keep.refl h0 []).ext E32).wr W33 (Or.inr sz_b32)).wr W34 (Or.inr sz_b32)).wr W35 (Or.inr sz_b32)).wr W36 (Or.inr sz_b32))).1 (Nat.le_of_eq g38.symm)
  have ne_b32_b38 : b32 ≠ b38 := Nat.ne_of_lt (Nat.lt_of_lt_of_le V36.lt (Nat.le_of_eq g38.symm))
  have V_b38 : Arv Z h38 b38 k38 .char (4 : Int32) [(.int (0 : Int32)), (.int (0 : Int32)), (.int (0 : Int32)), (.int (0 : Int32))] (.int (0 : Int32)) := (Arv.new A38 (by decide)).pad (pad_rep [] (.int (0 : Int32)) 4)
  obtain ⟨cl39, Ar39, q39, S39, M39, H39, G39⟩ := V_b38
  have hin39 : ¬ ((0 : Int32) < 0 ∨ cl39.slots.size ≤ ((0 : Int32)).toNatClampNeg) := inb_of S39 ⟨by decide, by decide⟩
  obtain ⟨T39, h39, X39, e39, W39, st39⟩ := stC X38 hx hZ e38 Ar39 (j := (0 : Int32)) hin39 (g := (mkF m 209 #[iv i1, .val (.long j2), .second, iv i3, iv i4, iv l2, iv (l2 - b1), iv n2, iv l1, iv s1, iv l0, iv s0, iv gv, rv b32, .unset, .unset, .unset] [(.int gv), (.int (0 : Int32)), (.ref b38), (.ref b38)])) rfl rfl (hb hby at_209)
  have V39 : Arv Z h39 b38 k38 .char (4 : Int32) [(.int (nar .char gv)), (.int (0 : Int32)), (.int (0 : Int32)), (.int (0 : Int32))] (.int (0 : Int32)) := Arv.set Ar39 q39 S39 M39 H39 G39 (fits_nar_char _) W39 0 rfl (Nat.le_of_ble_eq_true rfl)
  have N39 := Fr.snoc X39 N36 g_b38
  obtain ⟨cl40, Ar40, q40, S40, M40, H40, G40⟩ := V39
  have hin40 : ¬ ((1 : Int32) < 0 ∨ cl40.slots.size ≤ ((1 : Int32)).toNatClampNeg) := inb_of S40 ⟨by decide, by decide⟩
  obtain ⟨T40, h40, X40, e40, W40, st40⟩ := stC X39 hx hZ e39 Ar40 (j := (1 : Int32)) hin40 (g := (mkF m 214 #[iv i1, .val (.long j2), .second, iv i3, iv i4, iv l2, iv (l2 - b1), iv n2, iv l1, iv s1, iv l0, iv s0, iv gv, rv b32, .unset, .unset, .unset] [(.int gv), (.int (1 : Int32)), (.ref b38), (.ref b38)])) rfl rfl (hb hby at_214)
  have V40 : Arv Z h40 b38 k38 .char (4 : Int32) [(.int (nar .char gv)), (.int (nar .char gv)), (.int (0 : Int32)), (.int (0 : Int32))] (.int (0 : Int32)) := Arv.set Ar40 q40 S40 M40 H40 G40 (fits_nar_char _) W40 1 rfl (Nat.le_of_ble_eq_true rfl)
  have N40 := Fr.snoc X40 N39 g_b38
  obtain ⟨cl41, Ar41, q41, S41, M41, H41, G41⟩ := V40
  have hin41 : ¬ ((2 : Int32) < 0 ∨ cl41.slots.size ≤ ((2 : Int32)).toNatClampNeg) := inb_of S41 ⟨by decide, by decide⟩
  obtain ⟨T41, h41, X41, e41, W41, st41⟩ := stC X40 hx hZ e40 Ar41 (j := (2 : Int32)) hin41 (g := (mkF m 219 #[iv i1, .val (.long j2), .second, iv i3, iv i4, iv l2, iv (l2 - b1), iv n2, iv l1, iv s1, iv l0, iv s0, iv gv, rv b32, .unset, .unset, .unset] [(.int gv), (.int (2 : Int32)), (.ref b38), (.ref b38)])) rfl rfl (hb hby at_219)
  have V41 : Arv Z h41 b38 k38 .char (4 : Int32) [(.int (nar .char gv)), (.int (nar .char gv)), (.int (nar .char gv)), (.int (0 : Int32))] (.int (0 : Int32)) := Arv.set Ar41 q41 S41 M41 H41 G41 (fits_nar_char _) W41 2 rfl (Nat.le_of_ble_eq_true rfl)
  have N41 := Fr.snoc X41 N40 g_b38
  obtain ⟨cl42, Ar42, q42, S42, M42, H42, G42⟩ := V41
  have hin42 : ¬ ((3 : Int32) < 0 ∨ cl42.slots.size ≤ ((3 : Int32)).toNatClampNeg) := inb_of S42 ⟨by decide, by decide⟩
  obtain ⟨T42, h42, X42, e42, W42, st42⟩ := stC X41 hx hZ e41 Ar42 (j := (3 : Int32)) hin42 (g := (mkF m 224 #[iv i1, .val (.long j2), .second, iv i3, iv i4, iv l2, iv (l2 - b1), iv n2, iv l1, iv s1, iv l0, iv s0, iv gv, rv b32, .unset, .unset, .unset] [(.int gv), (.int (3 : Int32)), (.ref b38), (.ref b38)])) rfl rfl (hb hby at_224)
  have V42 : Arv Z h42 b38 k38 .char (4 : Int32) [(.int (nar .char gv)), (.int (nar .char gv)), (.int (nar .char gv)), (.int (nar .char gv))] (.int (0 : Int32)) := Arv.set Ar42 q42 S42 M42 H42 G42 (fits_nar_char _) W42 3 rfl (Nat.le_of_ble_eq_true rfl)
  have N42 := Fr.snoc X42 N41 g_b38
  have pre43 : ∀ t, own_S p e below T42 m 227 #[iv i1, .val (.long j2), .second, iv i3, iv i4, iv l2, iv (l2 - b1), iv n2, iv l1, iv s1, iv l0, iv s0, iv gv, rv b32, rv b38, .unset, .unset] [] t → Steps p.tables e below (s₁.setTop (entryFrame m #[(.int i1), (.long j2), (.int i3), (.int i4)] maxLocals)) t := fun t k => pre31 t (by
    show own_S p e below Tj11 m 177 #[iv i1, .val (.long j2), .second, iv i3, iv i4, iv l2, iv (l2 - b1), iv n2, iv l1, iv s1, iv l0, iv s0, iv gv, .unset, .unset, .unset, .unset] [] _
    refine XS.iconst Xj11.here hx rfl (hb hby at_177) ?_
    show own_S p e below Tj11 m 178 #[iv i1, .val (.long j2), .second, iv i3, iv i4, iv l2, iv (l2 - b1), iv n2, iv l1, iv s1, iv l0, iv s0, iv gv, .unset, .unset, .unset, .unset] [(.int (4 : Int32))] _
    refine st32 _ ?_
    show own_S p e below T32 m 180 #[iv i1, .val (.long j2), .second, iv i3, iv i4, iv l2, iv (l2 - b1), iv n2, iv l1, iv s1, iv l0, iv s0, iv gv, .unset, .unset, .unset, .unset] [(.ref b32)] _
    refine XS.dup X32.here hx rfl (hb hby at_180) rfl rfl ?_
    show own_S p e below T32 m 181 #[iv i1, .val (.long j2), .second, iv i3, iv i4, iv l2, iv (l2 - b1), iv n2, iv l1, iv s1, iv l0, iv s0, iv gv, .unset, .unset, .unset, .unset] [(.ref b32), (.ref b32)] _
    refine XS.iconst X32.here hx rfl (hb hby at_181) ?_
    show own_S p e below T32 m 182 #[iv i1, .val (.long j2), .second, iv i3, iv i4, iv l2, iv (l2 - b1), iv n2, iv l1, iv s1, iv l0, iv s0, iv gv, .unset, .unset, .unset, .unset] [(.int (0 : Int32)), (.ref b32), (.ref b32)] _
    refine XS.iload X32.here hx rfl (hb hby at_182) rfl ?_
    show own_S p e below T32 m 184 #[iv i1, .val (.long j2), .second, iv i3, iv i4, iv l2, iv (l2 - b1), iv n2, iv l1, iv s1, iv l0, iv s0, iv gv, .unset, .unset, .unset, .unset] [(.int gv), (.int (0 : Int32)), (.ref b32), (.ref b32)] _
    refine st33 _ ?_
    show own_S p e below T33 m 185 #[iv i1, .val (.long j2), .second, iv i3, iv i4, iv l2, iv (l2 - b1), iv n2, iv l1, iv s1, iv l0, iv s0, iv gv, .unset, .unset, .unset, .unset] [(.ref b32)] _
    refine XS.dup X33.here hx rfl (hb hby at_185) rfl rfl ?_
    show own_S p e below T33 m 186 #[iv i1, .val (.long j2), .second, iv i3, iv i4, iv l2, iv (l2 - b1), iv n2, iv l1, iv s1, iv l0, iv s0, iv gv, .unset, .unset, .unset, .unset] [(.ref b32), (.ref b32)] _
    refine XS.iconst X33.here hx rfl (hb hby at_186) ?_
    show own_S p e below T33 m 187 #[iv i1, .val (.long j2), .second, iv i3, iv i4, iv l2, iv (l2 - b1), iv n2, iv l1, iv s1, iv l0, iv s0, iv gv, .unset, .unset, .unset, .unset] [(.int (1 : Int32)), (.ref b32), (.ref b32)] _
    refine XS.iload X33.here hx rfl (hb hby at_187) rfl ?_
    show own_S p e below T33 m 189 #[iv i1, .val (.long j2), .second, iv i3, iv i4, iv l2, iv (l2 - b1), iv n2, iv l1, iv s1, iv l0, iv s0, iv gv, .unset, .unset, .unset, .unset] [(.int gv), (.int (1 : Int32)), (.ref b32), (.ref b32)] _
    refine st34 _ ?_
    show own_S p e below T34 m 190 #[iv i1, .val (.long j2), .second, iv i3, iv i4, iv l2, iv (l2 - b1), iv n2, iv l1, iv s1, iv l0, iv s0, iv gv, .unset, .unset, .unset, .unset] [(.ref b32)] _
    refine XS.dup X34.here hx rfl (hb hby at_190) rfl rfl ?_
    show own_S p e below T34 m 191 #[iv i1, .val (.long j2), .second, iv i3, iv i4, iv l2, iv (l2 - b1), iv n2, iv l1, iv s1, iv l0, iv s0, iv gv, .unset, .unset, .unset, .unset] [(.ref b32), (.ref b32)] _
    refine XS.iconst X34.here hx rfl (hb hby at_191) ?_
    show own_S p e below T34 m 192 #[iv i1, .val (.long j2), .second, iv i3, iv i4, iv l2, iv (l2 - b1), iv n2, iv l1, iv s1, iv l0, iv s0, iv gv, .unset, .unset, .unset, .unset] [(.int (2 : Int32)), (.ref b32), (.ref b32)] _
    refine XS.iload X34.here hx rfl (hb hby at_192) rfl ?_
    show own_S p e below T34 m 194 #[iv i1, .val (.long j2), .second, iv i3, iv i4, iv l2, iv (l2 - b1), iv n2, iv l1, iv s1, iv l0, iv s0, iv gv, .unset, .unset, .unset, .unset] [(.int gv), (.int (2 : Int32)), (.ref b32), (.ref b32)] _
    refine st35 _ ?_
    show own_S p e below T35 m 195 #[iv i1, .val (.long j2), .second, iv i3, iv i4, iv l2, iv (l2 - b1), iv n2, iv l1, iv s1, iv l0, iv s0, iv gv, .unset, .unset, .unset, .unset] [(.ref b32)] _
    refine XS.dup X35.here hx rfl (hb hby at_195) rfl rfl ?_
    show own_S p e below T35 m 196 #[iv i1, .val (.long j2), .second, iv i3, iv i4, iv l2, iv (l2 - b1), iv n2, iv l1, iv s1, iv l0, iv s0, iv gv, .unset, .unset, .unset, .unset] [(.ref b32), (.ref b32)] _
    refine XS.iconst X35.here hx rfl (hb hby at_196) ?_
    show own_S p e below T35 m 197 #[iv i1, .val (.long j2), .second, iv i3, iv i4, iv l2, iv (l2 - b1), iv n2, iv l1, iv s1, iv l0, iv s0, iv gv, .unset, .unset, .unset, .unset] [(.int (3 : Int32)), (.ref b32), (.ref b32)] _
    refine XS.iload X35.here hx rfl (hb hby at_197) rfl ?_
    show own_S p e below T35 m 199 #[iv i1, .val (.long j2), .second, iv i3, iv i4, iv l2, iv (l2 - b1), iv n2, iv l1, iv s1, iv l0, iv s0, iv gv, .unset, .unset, .unset, .unset] [(.int gv), (.int (3 : Int32)), (.ref b32), (.ref b32)] _
    refine st36 _ ?_
    show own_S p e below T36 m 200 #[iv i1, .val (.long j2), .second, iv i3, iv i4, iv l2, iv (l2 - b1), iv n2, iv l1, iv s1, iv l0, iv s0, iv gv, .unset, .unset, .unset, .unset] [(.ref b32)] _
    refine XS.astore X36.here hx rfl (hb hby at_200) rfl rfl (l' := #[iv i1, .val (.long j2), .second, iv i3, iv i4, iv l2, iv (l2 - b1), iv n2, iv l1, iv s1, iv l0, iv s0, iv gv, rv b32, .unset, .unset, .unset]) rfl ?_
    show own_S p e below T36 m 202 #[iv i1, .val (.long j2), .second, iv i3, iv i4, iv l2, iv (l2 - b1), iv n2, iv l1, iv s1, iv l0, iv s0, iv gv, rv b32, .unset, .unset, .unset] [] _
    refine XS.iconst X36.here hx rfl (hb hby at_202) ?_
    show own_S p e below T36 m 203 #[iv i1, .val (.long j2), .second, iv i3, iv i4, iv l2, iv (l2 - b1), iv n2, iv l1, iv s1, iv l0, iv s0, iv gv, rv b32, .unset, .unset, .unset] [(.int (4 : Int32))] _
    refine st38 _ ?_
    show own_S p e below T38 m 205 #[iv i1, .val (.long j2), .second, iv i3, iv i4, iv l2, iv (l2 - b1), iv n2, iv l1, iv s1, iv l0, iv s0, iv gv, rv b32, .unset, .unset, .unset] [(.ref b38)] _
    refine XS.dup X38.here hx rfl (hb hby at_205) rfl rfl ?_
    show own_S p e below T38 m 206 #[iv i1, .val (.long j2), .second, iv i3, iv i4, iv l2, iv (l2 - b1), iv n2, iv l1, iv s1, iv l0, iv s0, iv gv, rv b32, .unset, .unset, .unset] [(.ref b38), (.ref b38)] _
    refine XS.iconst X38.here hx rfl (hb hby at_206) ?_
    show own_S p e below T38 m 207 #[iv i1, .val (.long j2), .second, iv i3, iv i4, iv l2, iv (l2 - b1), iv n2, iv l1, iv s1, iv l0, iv s0, iv gv, rv b32, .unset, .unset, .unset] [(.int (0 : Int32)), (.ref b38), (.ref b38)] _
    refine XS.iload X38.here hx rfl (hb hby at_207) rfl ?_
    show own_S p e below T38 m 209 #[iv i1, .val (.long j2), .second, iv i3, iv i4, iv l2, iv (l2 - b1), iv n2, iv l1, iv s1, iv l0, iv s0, iv gv, rv b32, .unset, .unset, .unset] [(.int gv), (.int (0 : Int32)), (.ref b38), (.ref b38)] _
    refine st39 _ ?_
    show own_S p e below T39 m 210 #[iv i1, .val (.long j2), .second, iv i3, iv i4, iv l2, iv (l2 - b1), iv n2, iv l1, iv s1, iv l0, iv s0, iv gv, rv b32, .unset, .unset, .unset] [(.ref b38)] _
    refine XS.dup X39.here hx rfl (hb hby at_210) rfl rfl ?_
    show own_S p e below T39 m 211 #[iv i1, .val (.long j2), .second, iv i3, iv i4, iv l2, iv (l2 - b1), iv n2, iv l1, iv s1, iv l0, iv s0, iv gv, rv b32, .unset, .unset, .unset] [(.ref b38), (.ref b38)] _
    refine XS.iconst X39.here hx rfl (hb hby at_211) ?_
    show own_S p e below T39 m 212 #[iv i1, .val (.long j2), .second, iv i3, iv i4, iv l2, iv (l2 - b1), iv n2, iv l1, iv s1, iv l0, iv s0, iv gv, rv b32, .unset, .unset, .unset] [(.int (1 : Int32)), (.ref b38), (.ref b38)] _
    refine XS.iload X39.here hx rfl (hb hby at_212) rfl ?_
    show own_S p e below T39 m 214 #[iv i1, .val (.long j2), .second, iv i3, iv i4, iv l2, iv (l2 - b1), iv n2, iv l1, iv s1, iv l0, iv s0, iv gv, rv b32, .unset, .unset, .unset] [(.int gv), (.int (1 : Int32)), (.ref b38), (.ref b38)] _
    refine st40 _ ?_
    show own_S p e below T40 m 215 #[iv i1, .val (.long j2), .second, iv i3, iv i4, iv l2, iv (l2 - b1), iv n2, iv l1, iv s1, iv l0, iv s0, iv gv, rv b32, .unset, .unset, .unset] [(.ref b38)] _
    refine XS.dup X40.here hx rfl (hb hby at_215) rfl rfl ?_
    show own_S p e below T40 m 216 #[iv i1, .val (.long j2), .second, iv i3, iv i4, iv l2, iv (l2 - b1), iv n2, iv l1, iv s1, iv l0, iv s0, iv gv, rv b32, .unset, .unset, .unset] [(.ref b38), (.ref b38)] _
    refine XS.iconst X40.here hx rfl (hb hby at_216) ?_
    show own_S p e below T40 m 217 #[iv i1, .val (.long j2), .second, iv i3, iv i4, iv l2, iv (l2 - b1), iv n2, iv l1, iv s1, iv l0, iv s0, iv gv, rv b32, .unset, .unset, .unset] [(.int (2 : Int32)), (.ref b38), (.ref b38)] _
    refine XS.iload X40.here hx rfl (hb hby at_217) rfl ?_
    show own_S p e below T40 m 219 #[iv i1, .val (.long j2), .second, iv i3, iv i4, iv l2, iv (l2 - b1), iv n2, iv l1, iv s1, iv l0, iv s0, iv gv, rv b32, .unset, .unset, .unset] [(.int gv), (.int (2 : Int32)), (.ref b38), (.ref b38)] _
    refine st41 _ ?_
    show own_S p e below T41 m 220 #[iv i1, .val (.long j2), .second, iv i3, iv i4, iv l2, iv (l2 - b1), iv n2, iv l1, iv s1, iv l0, iv s0, iv gv, rv b32, .unset, .unset, .unset] [(.ref b38)] _
    refine XS.dup X41.here hx rfl (hb hby at_220) rfl rfl ?_
    show own_S p e below T41 m 221 #[iv i1, .val (.long j2), .second, iv i3, iv i4, iv l2, iv (l2 - b1), iv n2, iv l1, iv s1, iv l0, iv s0, iv gv, rv b32, .unset, .unset, .unset] [(.ref b38), (.ref b38)] _
    refine XS.iconst X41.here hx rfl (hb hby at_221) ?_
    show own_S p e below T41 m 222 #[iv i1, .val (.long j2), .second, iv i3, iv i4, iv l2, iv (l2 - b1), iv n2, iv l1, iv s1, iv l0, iv s0, iv gv, rv b32, .unset, .unset, .unset] [(.int (3 : Int32)), (.ref b38), (.ref b38)] _
    refine XS.iload X41.here hx rfl (hb hby at_222) rfl ?_
    show own_S p e below T41 m 224 #[iv i1, .val (.long j2), .second, iv i3, iv i4, iv l2, iv (l2 - b1), iv n2, iv l1, iv s1, iv l0, iv s0, iv gv, rv b32, .unset, .unset, .unset] [(.int gv), (.int (3 : Int32)), (.ref b38), (.ref b38)] _
    refine st42 _ ?_
    show own_S p e below T42 m 225 #[iv i1, .val (.long j2), .second, iv i3, iv i4, iv l2, iv (l2 - b1), iv n2, iv l1, iv s1, iv l0, iv s0, iv gv, rv b32, .unset, .unset, .unset] [(.ref b38)] _
    refine XS.astore X42.here hx rfl (hb hby at_225) rfl rfl (l' := #[iv i1, .val (.long j2), .second, iv i3, iv i4, iv l2, iv (l2 - b1), iv n2, iv l1, iv s1, iv l0, iv s0, iv gv, rv b32, rv b38, .unset, .unset]) rfl ?_
    exact k)
  rcases h_n2 with rfl | rfl | rfl
  ·  -- case
    have Vn_44 := (((((V36.ext E38).other W39 ne_b32_b38).other W40 ne_b32_b38).other W41 ne_b32_b38).other W42 ne_b32_b38)
    obtain ⟨cl45, Ar45, q45, S45, M45, H45, G45⟩ := Vn_44
    have hin45 : ¬ ((0 : Int32) < 0 ∨ cl45.slots.size ≤ ((0 : Int32)).toNatClampNeg) := inb_of S45 ⟨by decide, by decide⟩
    obtain ⟨T45, h45, X45, e45, W45, st45⟩ := stC X42 hx hZ e42 Ar45 (j := (0 : Int32)) hin45 (g := (mkF m 239 #[iv i1, .val (.long j2), .second, iv i3, iv i4, iv l2, iv (l2 - b1), iv (1 : Int32), iv l1, iv s1, iv l0, iv s0, iv gv, rv b32, rv b38, .unset, .unset] [(.int ((l2 - b1).toUInt32.toUInt16.toUInt32.toInt32)), (.int (0 : Int32)), (.ref b32)])) rfl rfl (hb hby at_239)
    have V45 : Arv Z h45 b32 k32 .char (4 : Int32) [(.int (nar .char ((l2 - b1).toUInt32.toUInt16.toUInt32.toInt32))), (.int (nar .char gv)), (.int (nar .char gv)), (.int (nar .char gv))] (.int (0 : Int32)) := Arv.set Ar45 q45 S45 M45 H45 G45 (fits_nar_char _) W45 0 rfl (Nat.le_of_ble_eq_true rfl)
    have N45 := Fr.snoc X45 N42 g_b32
    have Vn_46 := (V42.other W45 (Ne.symm ne_b32_b38))
    obtain ⟨cl47, Ar47, q47, S47, M47, H47, G47⟩ := Vn_46
    have hin47 : ¬ ((0 : Int32) < 0 ∨ cl47.slots.size ≤ ((0 : Int32)).toNatClampNeg) := inb_of S47 ⟨by decide, by decide⟩
    obtain ⟨T47, h47, X47, e47, W47, st47⟩ := stC X45 hx hZ e45 Ar47 (j := (0 : Int32)) hin47 (g := (mkF m 246 #[iv i1, .val (.long j2), .second, iv i3, iv i4, iv l2, iv (l2 - b1), iv (1 : Int32), iv l1, iv s1, iv l0, iv s0, iv gv, rv b32, rv b38, .unset, .unset] [(.int (l2.toUInt32.toUInt16.toUInt32.toInt32)), (.int (0 : Int32)), (.ref b38)])) rfl rfl (hb hby at_246)
    have V47 : Arv Z h47 b38 k38 .char (4 : Int32) [(.int (nar .char (l2.toUInt32.toUInt16.toUInt32.toInt32))), (.int (nar .char gv)), (.int (nar .char gv)), (.int (nar .char gv))] (.int (0 : Int32)) := Arv.set Ar47 q47 S47 M47 H47 G47 (fits_nar_char _) W47 0 rfl (Nat.le_of_ble_eq_true rfl)
    have N47 := Fr.snoc X47 N45 g_b38
    have Zs48 : n0 ≤ h47.size := (Nat.le_trans (Nat.le_trans (Nat.le_trans (Nat.le_trans (Nat.le_trans (Nat.le_trans (Nat.le_trans Zs37 E38.1) (Keep.of_wr W39).1) (Keep.of_wr W40).1) (Keep.of_wr W41).1) (Keep.of_wr W42).1) (Keep.of_wr W45).1) (Keep.of_wr W47).1)
    have Vn_49 := (V45.other W47 ne_b32_b38)
    obtain ⟨T50, h50, X50, e50, E50, A50, D50, -, st50⟩ := newO X47 hx hZ hown (hw _ (List.mem_of_getElem? (i := 8) rfl)) (hw _ (List.mem_of_getElem? (i := 9) rfl)) (hw _ (List.mem_of_getElem? (i := 10) rfl)) e47 (g := (mkF m 380 #[iv i1, .val (.long j2), .second, iv i3, iv i4, iv l2, iv (l2 - b1), iv (1 : Int32), iv l1, iv s1, iv l0, iv s0, iv gv, rv b32, rv b38, iv ((l2 - (l2 - b1)) + (1 : Int32)), .unset] [])) rfl (hb hby at_380) (by decide) (by decide)
    obtain ⟨b50, g50⟩ : ∃ z, z = h47.size := ⟨_, rfl⟩
    rw [← g50] at A50 D50 st50
    have g_b50 : n0 ≤ b50 := Nat.le_trans Zs48 (Nat.le_of_eq g50.symm)
    have sz_b50 : h0.size ≤ b50 := Nat.le_trans ((((((((((((((Keep.refl h0 []).ext E32).wr W33 (Or.inr sz_b32)).wr W34 (Or.inr sz_b32)).wr W35 (Or.inr sz_b32)).wr W36 (Or.inr sz_b32)).ext E38).wr W39 (Or.inr sz_b38)).wr W40 (Or.inr sz_b38)).wr W41 (Or.inr sz_b38)).wr W42 (Or.inr sz_b38)).wr W45 (Or.inr sz_b32)).wr W47 (Or.inr sz_b38))).1 (Nat.le_of_eq g50.symm)
    have ne_b32_b50 : b32 ≠ b50 := Nat.ne_of_lt (Nat.lt_of_lt_of_le Vn_49.lt (Nat.le_of_eq g50.symm))
    have ne_b38_b50 : b38 ≠ b50 := Nat.ne_of_lt (Nat.lt_of_lt_of_le V47.lt (Nat.le_of_eq g50.symm))
    have F_starts_b50 : Fld Z h50 b50 "com/example/bitstrata/bitstrata/RunContainer" "starts" "[C" .null := D50 (Or.inl (hw _ (List.mem_of_getElem? (i := 18) rfl))) (ty := (.array .char)) (by decide)
    have F_lasts_b50 : Fld Z h50 b50 "com/example/bitstrata/bitstrata/RunContainer" "lasts" "[C" .null := D50 (Or.inl (hw _ (List.mem_of_getElem? (i := 20) rfl))) (ty := (.array .char)) (by decide)
    have F_runCount_b50 : Fld Z h50 b50 "com/example/bitstrata/bitstrata/RunContainer" "runCount" "I" (.int (0 : Int32)) := D50 (Or.inl (hw _ (List.mem_of_getElem? (i := 22) rfl))) (ty := .int) (by decide)
    have F_cardinality_b50 : Fld Z h50 b50 "com/example/bitstrata/bitstrata/RunContainer" "cardinality" "I" (.int (0 : Int32)) := D50 (Or.inl (hw _ (List.mem_of_getElem? (i := 24) rfl))) (ty := .int) (by decide)
    have Zs52 : n0 ≤ h50.size := (Nat.le_trans Zs48 E50.1)
    obtain ⟨_, _, ⟨T51, L51, k51, n51⟩, -, X51, ⟨Lc51, hQ51, l51, y51, z51⟩, st51⟩ := X50.specialBack hx (y := (⟨"com/example/bitstrata/bitstrata/RunContainer", "<init>", "([C[CII)V"⟩ : MethodName)) rfl hown (mvT hZ (hw _ (List.mem_of_getElem? (i := 11) rfl))) (mvT hZ (hw _ (List.mem_of_getElem? (i := 12) rfl))) (mvT hZ (hw _ (List.mem_of_getElem? (i := 13) rfl))) (by decide) (backOf (W := 1) (rm2 l Z a0 hw [] b50 b32 b38 (1 : Int32) ((l2 - (l2 - b1)) + (1 : Int32)) h50 n0 Zs52 A50 g_b50 F_starts_b50 F_lasts_b50 F_runCount_b50 F_cardinality_b50) hZ (hw _ (List.mem_of_getElem? (i := 13) rfl)) (hw _ (List.mem_of_getElem? (i := 10) rfl)) (by decide) (by decide)) (g := (mkF m 392 #[iv i1, .val (.long j2), .second, iv i3, iv i4, iv l2, iv (l2 - b1), iv (1 : Int32), iv l1, iv s1, iv l0, iv s0, iv gv, rv b32, rv b38, iv ((l2 - (l2 - b1)) + (1 : Int32)), .unset] [(.int ((l2 - (l2 - b1)) + (1 : Int32))), (.int (1 : Int32)), (.ref b38), (.ref b32), (.ref b50), (.ref b50)])) rfl (by rw [hml]; rfl) (Steps.refl _) (a := b50) (argsL := [(.ref b32), (.ref b38), (.int (1 : Int32)), (.int ((l2 - (l2 - b1)) + (1 : Int32)))]) (rest := [(.ref b50)]) (lenOf pd_1 rfl) rfl (by show 2 * 0 + _ ≤ _; exact Nat.le_of_eq rfl) (hb hby at_392) (fun _ _ => ⟨rfl, e50, (by decide : 3 + 0 ≤ _), (by decide : 12 + 0 ≤ _)⟩)
    dsimp only [Pt.U, Pt.locs, Pt.cells, Pt.slots] at X51 l51 y51 z51 st51 hQ51
    subst l51 y51 z51
    obtain ⟨rfl, N51q, K51, E51c, Fa51, Fb51, Fc51, Fd51⟩ := hQ51
    have N51 := Fr.app N47 N51q
    have Vn_53 := ((V47.ext E50).keep K51 (ninS ne_b38_b50 nin0))
    have Zs55 : n0 ≤ T51.heap.size := (Nat.le_trans Zs52 K51.1)
    obtain ⟨cq54, kq54, q54a, q54b, q54c⟩ := isOf hZ rfl E51c
    obtain ⟨_, _, ⟨T54, L54, k54, n54⟩, -, X54, ⟨Lc54, hQ54, l54, y54, z54⟩, st54⟩ := X51.virtualBack hx (y := (⟨"com/example/bitstrata/bitstrata/RunContainer", "last", "()C"⟩ : MethodName)) (z := (⟨"com/example/bitstrata/bitstrata/RunContainer", "last", "()C"⟩ : MethodName)) hown (mvT hZ (hw _ (List.mem_of_getElem? (i := 25) rfl))) (mvT hZ (hw _ (List.mem_of_getElem? (i := 26) rfl))) (notFace_of_selects (args := #[]) (mvT hZ (hw _ (List.mem_of_getElem? (i := 28) rfl)))) (mvT hZ (hw _ (List.mem_of_getElem? (i := 28) rfl))) (mvT hZ (hw _ (List.mem_of_getElem? (i := 27) rfl))) (by decide) (backOf (W := 0) (rm4 l Z a0 hw [] b50 b38 (1 : Int32) k38 [(.int (nar .char (l2.toUInt32.toUInt16.toUInt32.toInt32))), (.int (nar .char gv)), (.int (nar .char gv)), (.int (nar .char gv))] (nar .char (l2.toUInt32.toUInt16.toUInt32.toInt32)) T51.heap n0 Zs55 Fb51 Fc51 Vn_53 ⟨by decide, by decide⟩ rfl) hZ (hw _ (List.mem_of_getElem? (i := 29) rfl)) (hw _ (List.mem_of_getElem? (i := 10) rfl)) (by decide) (by decide)) q54a q54c (g := (mkF m 399 #[iv i1, .val (.long j2), .second, iv i3, iv i4, iv l2, iv (l2 - b1), iv (1 : Int32), iv l1, iv s1, iv l0, iv s0, iv gv, rv b32, rv b38, iv ((l2 - (l2 - b1)) + (1 : Int32)), rv b50] [(.ref b50)])) rfl (by rw [hml]; rfl) (Steps.refl _) (argsL := []) (rest := []) (lenOf pd_2 rfl) rfl (by show 2 * 0 + _ ≤ _; exact Nat.le_of_eq rfl) (hb hby at_399) (fun _ _ => ⟨rfl, rfl, (by decide : 3 + 0 ≤ _), (by decide : 12 + 0 ≤ _)⟩)
    dsimp only [Pt.U, Pt.locs, Pt.cells, Pt.slots] at X54 l54 y54 z54 st54 hQ54
    subst l54 y54 z54
    obtain ⟨rfl, N54q, e54q⟩ := hQ54
    have N54 := Fr.app N51 N54q
    have e54 : T54.heap = T51.heap := e54q
    have pre56 : ∀ t, own_S p e below T54 m 413 #[iv i1, .val (.long j2), .second, iv i3, iv i4, iv l2, iv (l2 - b1), iv (1 : Int32), iv l1, iv s1, iv l0, iv s0, iv gv, rv b32, rv b38, iv ((l2 - (l2 - b1)) + (1 : Int32)), rv b50] [(.int (1 : Int32))] t → Steps p.tables e below (s₁.setTop (entryFrame m #[(.int i1), (.long j2), (.int i3), (.int i4)] maxLocals)) t := fun t k => pre43 t (by
      show own_S p e below T42 m 227 #[iv i1, .val (.long j2), .second, iv i3, iv i4, iv l2, iv (l2 - b1), iv (1 : Int32), iv l1, iv s1, iv l0, iv s0, iv gv, rv b32, rv b38, .unset, .unset] [] _
      refine XS.iload X42.here hx rfl (hb hby at_227) rfl ?_
      show own_S p e below T42 m 229 #[iv i1, .val (.long j2), .second, iv i3, iv i4, iv l2, iv (l2 - b1), iv (1 : Int32), iv l1, iv s1, iv l0, iv s0, iv gv, rv b32, rv b38, .unset, .unset] [(.int (1 : Int32))] _
      refine XS.iconst X42.here hx rfl (hb hby at_229) ?_
      show own_S p e below T42 m 230 #[iv i1, .val (.long j2), .second, iv i3, iv i4, iv l2, iv (l2 - b1), iv (1 : Int32), iv l1, iv s1, iv l0, iv s0, iv gv, rv b32, rv b38, .unset, .unset] [(.int (1 : Int32)), (.int (1 : Int32))] _
      refine XS.icmpNo X42.here hx rfl (hb hby at_230) rfl (teq (by decide : (1 : Int32) = (1 : Int32))).2 ?_
      show own_S p e below T42 m 233 #[iv i1, .val (.long j2), .second, iv i3, iv i4, iv l2, iv (l2 - b1), iv (1 : Int32), iv l1, iv s1, iv l0, iv s0, iv gv, rv b32, rv b38, .unset, .unset] [] _
      refine XS.aload X42.here hx rfl (hb hby at_233) rfl rfl ?_
      show own_S p e below T42 m 235 #[iv i1, .val (.long j2), .second, iv i3, iv i4, iv l2, iv (l2 - b1), iv (1 : Int32), iv l1, iv s1, iv l0, iv s0, iv gv, rv b32, rv b38, .unset, .unset] [(.ref b32)] _
      refine XS.iconst X42.here hx rfl (hb hby at_235) ?_
      show own_S p e below T42 m 236 #[iv i1, .val (.long j2), .second, iv i3, iv i4, iv l2, iv (l2 - b1), iv (1 : Int32), iv l1, iv s1, iv l0, iv s0, iv gv, rv b32, rv b38, .unset, .unset] [(.int (0 : Int32)), (.ref b32)] _
      refine XS.iload X42.here hx rfl (hb hby at_236) rfl ?_
      show own_S p e below T42 m 238 #[iv i1, .val (.long j2), .second, iv i3, iv i4, iv l2, iv (l2 - b1), iv (1 : Int32), iv l1, iv s1, iv l0, iv s0, iv gv, rv b32, rv b38, .unset, .unset] [(.int (l2 - b1)), (.int (0 : Int32)), (.ref b32)] _
      refine XS.i2c X42.here hx rfl (hb hby at_238) rfl ?_
      show own_S p e below T42 m 239 #[iv i1, .val (.long j2), .second, iv i3, iv i4, iv l2, iv (l2 - b1), iv (1 : Int32), iv l1, iv s1, iv l0, iv s0, iv gv, rv b32, rv b38, .unset, .unset] [(.int ((l2 - b1).toUInt32.toUInt16.toUInt32.toInt32)), (.int (0 : Int32)), (.ref b32)] _
      refine st45 _ ?_
      show own_S p e below T45 m 240 #[iv i1, .val (.long j2), .second, iv i3, iv i4, iv l2, iv (l2 - b1), iv (1 : Int32), iv l1, iv s1, iv l0, iv s0, iv gv, rv b32, rv b38, .unset, .unset] [] _
      refine XS.aload X45.here hx rfl (hb hby at_240) rfl rfl ?_
      show own_S p e below T45 m 242 #[iv i1, .val (.long j2), .second, iv i3, iv i4, iv l2, iv (l2 - b1), iv (1 : Int32), iv l1, iv s1, iv l0, iv s0, iv gv, rv b32, rv b38, .unset, .unset] [(.ref b38)] _
      refine XS.iconst X45.here hx rfl (hb hby at_242) ?_
      show own_S p e below T45 m 243 #[iv i1, .val (.long j2), .second, iv i3, iv i4, iv l2, iv (l2 - b1), iv (1 : Int32), iv l1, iv s1, iv l0, iv s0, iv gv, rv b32, rv b38, .unset, .unset] [(.int (0 : Int32)), (.ref b38)] _
      refine XS.iload X45.here hx rfl (hb hby at_243) rfl ?_
      show own_S p e below T45 m 245 #[iv i1, .val (.long j2), .second, iv i3, iv i4, iv l2, iv (l2 - b1), iv (1 : Int32), iv l1, iv s1, iv l0, iv s0, iv gv, rv b32, rv b38, .unset, .unset] [(.int l2), (.int (0 : Int32)), (.ref b38)] _
      refine XS.i2c X45.here hx rfl (hb hby at_245) rfl ?_
      show own_S p e below T45 m 246 #[iv i1, .val (.long j2), .second, iv i3, iv i4, iv l2, iv (l2 - b1), iv (1 : Int32), iv l1, iv s1, iv l0, iv s0, iv gv, rv b32, rv b38, .unset, .unset] [(.int (l2.toUInt32.toUInt16.toUInt32.toInt32)), (.int (0 : Int32)), (.ref b38)] _
      refine st47 _ ?_
      show own_S p e below T47 m 247 #[iv i1, .val (.long j2), .second, iv i3, iv i4, iv l2, iv (l2 - b1), iv (1 : Int32), iv l1, iv s1, iv l0, iv s0, iv gv, rv b32, rv b38, .unset, .unset] [] _
      refine XS.iload X47.here hx rfl (hb hby at_247) rfl ?_
      show own_S p e below T47 m 249 #[iv i1, .val (.long j2), .second, iv i3, iv i4, iv l2, iv (l2 - b1), iv (1 : Int32), iv l1, iv s1, iv l0, iv s0, iv gv, rv b32, rv b38, .unset, .unset] [(.int l2)] _
      refine XS.iload X47.here hx rfl (hb hby at_249) rfl ?_
      show own_S p e below T47 m 251 #[iv i1, .val (.long j2), .second, iv i3, iv i4, iv l2, iv (l2 - b1), iv (1 : Int32), iv l1, iv s1, iv l0, iv s0, iv gv, rv b32, rv b38, .unset, .unset] [(.int (l2 - b1)), (.int l2)] _
      refine XS.isub X47.here hx rfl (hb hby at_251) rfl ?_
      show own_S p e below T47 m 252 #[iv i1, .val (.long j2), .second, iv i3, iv i4, iv l2, iv (l2 - b1), iv (1 : Int32), iv l1, iv s1, iv l0, iv s0, iv gv, rv b32, rv b38, .unset, .unset] [(.int (l2 - (l2 - b1)))] _
      refine XS.iconst X47.here hx rfl (hb hby at_252) ?_
      show own_S p e below T47 m 253 #[iv i1, .val (.long j2), .second, iv i3, iv i4, iv l2, iv (l2 - b1), iv (1 : Int32), iv l1, iv s1, iv l0, iv s0, iv gv, rv b32, rv b38, .unset, .unset] [(.int (1 : Int32)), (.int (l2 - (l2 - b1)))] _
      refine XS.iadd X47.here hx rfl (hb hby at_253) rfl ?_
      show own_S p e below T47 m 254 #[iv i1, .val (.long j2), .second, iv i3, iv i4, iv l2, iv (l2 - b1), iv (1 : Int32), iv l1, iv s1, iv l0, iv s0, iv gv, rv b32, rv b38, .unset, .unset] [(.int ((l2 - (l2 - b1)) + (1 : Int32)))] _
      refine XS.istore X47.here hx rfl (hb hby at_254) rfl (l' := #[iv i1, .val (.long j2), .second, iv i3, iv i4, iv l2, iv (l2 - b1), iv (1 : Int32), iv l1, iv s1, iv l0, iv s0, iv gv, rv b32, rv b38, iv ((l2 - (l2 - b1)) + (1 : Int32)), .unset]) rfl ?_
      show own_S p e below T47 m 256 #[iv i1, .val (.long j2), .second, iv i3, iv i4, iv l2, iv (l2 - b1), iv (1 : Int32), iv l1, iv s1, iv l0, iv s0, iv gv, rv b32, rv b38, iv ((l2 - (l2 - b1)) + (1 : Int32)), .unset] [] _
      refine XS.goto X47.here hx rfl (pc0 := 256) (pc' := 380) rfl (hb hby at_256) (by decide) (by decide) ?_
      show own_S p e below T47 m 380 #[iv i1, .val (.long j2), .second, iv i3, iv i4, iv l2, iv (l2 - b1), iv (1 : Int32), iv l1, iv s1, iv l0, iv s0, iv gv, rv b32, rv b38, iv ((l2 - (l2 - b1)) + (1 : Int32)), .unset] [] _
      refine st50 _ ?_
      show own_S p e below T50 m 383 #[iv i1, .val (.long j2), .second, iv i3, iv i4, iv l2, iv (l2 - b1), iv (1 : Int32), iv l1, iv s1, iv l0, iv s0, iv gv, rv b32, rv b38, iv ((l2 - (l2 - b1)) + (1 : Int32)), .unset] [(.ref b50)] _
      refine XS.dup X50.here hx rfl (hb hby at_383) rfl rfl ?_
      show own_S p e below T50 m 384 #[iv i1, .val (.long j2), .second, iv i3, iv i4, iv l2, iv (l2 - b1), iv (1 : Int32), iv l1, iv s1, iv l0, iv s0, iv gv, rv b32, rv b38, iv ((l2 - (l2 - b1)) + (1 : Int32)), .unset] [(.ref b50), (.ref b50)] _
      refine XS.aload X50.here hx rfl (hb hby at_384) rfl rfl ?_
      show own_S p e below T50 m 386 #[iv i1, .val (.long j2), .second, iv i3, iv i4, iv l2, iv (l2 - b1), iv (1 : Int32), iv l1, iv s1, iv l0, iv s0, iv gv, rv b32, rv b38, iv ((l2 - (l2 - b1)) + (1 : Int32)), .unset] [(.ref b32), (.ref b50), (.ref b50)] _
      refine XS.aload X50.here hx rfl (hb hby at_386) rfl rfl ?_
      show own_S p e below T50 m 388 #[iv i1, .val (.long j2), .second, iv i3, iv i4, iv l2, iv (l2 - b1), iv (1 : Int32), iv l1, iv s1, iv l0, iv s0, iv gv, rv b32, rv b38, iv ((l2 - (l2 - b1)) + (1 : Int32)), .unset] [(.ref b38), (.ref b32), (.ref b50), (.ref b50)] _
      refine XS.iload X50.here hx rfl (hb hby at_388) rfl ?_
      show own_S p e below T50 m 390 #[iv i1, .val (.long j2), .second, iv i3, iv i4, iv l2, iv (l2 - b1), iv (1 : Int32), iv l1, iv s1, iv l0, iv s0, iv gv, rv b32, rv b38, iv ((l2 - (l2 - b1)) + (1 : Int32)), .unset] [(.int (1 : Int32)), (.ref b38), (.ref b32), (.ref b50), (.ref b50)] _
      refine XS.iload X50.here hx rfl (hb hby at_390) rfl ?_
      show own_S p e below T50 m 392 #[iv i1, .val (.long j2), .second, iv i3, iv i4, iv l2, iv (l2 - b1), iv (1 : Int32), iv l1, iv s1, iv l0, iv s0, iv gv, rv b32, rv b38, iv ((l2 - (l2 - b1)) + (1 : Int32)), .unset] [(.int ((l2 - (l2 - b1)) + (1 : Int32))), (.int (1 : Int32)), (.ref b38), (.ref b32), (.ref b50), (.ref b50)] _
      refine st51.trans ?_
      show own_S p e below T51 m 395 #[iv i1, .val (.long j2), .second, iv i3, iv i4, iv l2, iv (l2 - b1), iv (1 : Int32), iv l1, iv s1, iv l0, iv s0, iv gv, rv b32, rv b38, iv ((l2 - (l2 - b1)) + (1 : Int32)), .unset] [(.ref b50)] _
      refine XS.astore X51.here hx rfl (hb hby at_395) rfl rfl (l' := #[iv i1, .val (.long j2), .second, iv i3, iv i4, iv l2, iv (l2 - b1), iv (1 : Int32), iv l1, iv s1, iv l0, iv s0, iv gv, rv b32, rv b38, iv ((l2 - (l2 - b1)) + (1 : Int32)), rv b50]) rfl ?_
      show own_S p e below T51 m 397 #[iv i1, .val (.long j2), .second, iv i3, iv i4, iv l2, iv (l2 - b1), iv (1 : Int32), iv l1, iv s1, iv l0, iv s0, iv gv, rv b32, rv b38, iv ((l2 - (l2 - b1)) + (1 : Int32)), rv b50] [] _
      refine XS.aload X51.here hx rfl (hb hby at_397) rfl rfl ?_
      show own_S p e below T51 m 399 #[iv i1, .val (.long j2), .second, iv i3, iv i4, iv l2, iv (l2 - b1), iv (1 : Int32), iv l1, iv s1, iv l0, iv s0, iv gv, rv b32, rv b38, iv ((l2 - (l2 - b1)) + (1 : Int32)), rv b50] [(.ref b50)] _
      refine st54.trans ?_
      show own_S p e below T54 m 402 #[iv i1, .val (.long j2), .second, iv i3, iv i4, iv l2, iv (l2 - b1), iv (1 : Int32), iv l1, iv s1, iv l0, iv s0, iv gv, rv b32, rv b38, iv ((l2 - (l2 - b1)) + (1 : Int32)), rv b50] [(.int (nar .char (nar .char (l2.toUInt32.toUInt16.toUInt32.toInt32))))] _
      refine XS.iload X54.here hx rfl (hb hby at_402) rfl ?_
      show own_S p e below T54 m 404 #[iv i1, .val (.long j2), .second, iv i3, iv i4, iv l2, iv (l2 - b1), iv (1 : Int32), iv l1, iv s1, iv l0, iv s0, iv gv, rv b32, rv b38, iv ((l2 - (l2 - b1)) + (1 : Int32)), rv b50] [(.int l2), (.int (nar .char (nar .char (l2.toUInt32.toUInt16.toUInt32.toInt32))))] _
      refine XS.i2c X54.here hx rfl (hb hby at_404) rfl ?_
      show own_S p e below T54 m 405 #[iv i1, .val (.long j2), .second, iv i3, iv i4, iv l2, iv (l2 - b1), iv (1 : Int32), iv l1, iv s1, iv l0, iv s0, iv gv, rv b32, rv b38, iv ((l2 - (l2 - b1)) + (1 : Int32)), rv b50] [(.int (l2.toUInt32.toUInt16.toUInt32.toInt32)), (.int (nar .char (nar .char (l2.toUInt32.toUInt16.toUInt32.toInt32))))] _
      refine XS.icmpNo X54.here hx rfl (hb hby at_405) rfl (teq (by show nar .char (nar .char (nar .char l2)) = nar .char l2; rw [own_nn, own_nn])).2 ?_
      show own_S p e below T54 m 408 #[iv i1, .val (.long j2), .second, iv i3, iv i4, iv l2, iv (l2 - b1), iv (1 : Int32), iv l1, iv s1, iv l0, iv s0, iv gv, rv b32, rv b38, iv ((l2 - (l2 - b1)) + (1 : Int32)), rv b50] [] _
      refine XS.iconst X54.here hx rfl (hb hby at_408) ?_
      show own_S p e below T54 m 409 #[iv i1, .val (.long j2), .second, iv i3, iv i4, iv l2, iv (l2 - b1), iv (1 : Int32), iv l1, iv s1, iv l0, iv s0, iv gv, rv b32, rv b38, iv ((l2 - (l2 - b1)) + (1 : Int32)), rv b50] [(.int (1 : Int32))] _
      refine XS.goto X54.here hx rfl (pc0 := 409) (pc' := 413) rfl (hb hby at_409) (by decide) (by decide) ?_
      exact k)
    obtain ⟨fs, hr, hrun, hended, hW, hsame⟩ := X54.leave (v := some (.int (nar .boolean (1 : Int32)))) (fun h => by rw [Bd.returns] at h; cases h)
    refine ⟨_, _, pre56 _ ?_, hrun, hended, _, _, rfl, ?_, ⟨_, rfl⟩, hW, hsame.mono (by decide) (by decide)⟩
    · show own_S p e below T54 m 413 #[iv i1, .val (.long j2), .second, iv i3, iv i4, iv l2, iv (l2 - b1), iv (1 : Int32), iv l1, iv s1, iv l0, iv s0, iv gv, rv b32, rv b38, iv ((l2 - (l2 - b1)) + (1 : Int32)), rv b50] [(.int (1 : Int32))] _
      exact retN X54 hx (t := .boolean) Bd.returns (by simp) (hb hby at_413) hr
    · show Q0 Z i1 j2 i3 i4 h0 n0 _ T54.heap _
      rw [e54]
      exact ⟨rfl, N54⟩
  ·  -- case
    have Vn_57 := (((((V36.ext E38).other W39 ne_b32_b38).other W40 ne_b32_b38).other W41 ne_b32_b38).other W42 ne_b32_b38)
    obtain ⟨cl58, Ar58, q58, S58, M58, H58, G58⟩ := Vn_57
    have hin58 : ¬ ((0 : Int32) < 0 ∨ cl58.slots.size ≤ ((0 : Int32)).toNatClampNeg) := inb_of S58 ⟨by decide, by decide⟩
    obtain ⟨T58, h58, X58, e58, W58, st58⟩ := stC X42 hx hZ e42 Ar58 (j := (0 : Int32)) hin58 (g := (mkF m 271 #[iv i1, .val (.long j2), .second, iv i3, iv i4, iv l2, iv (l2 - b1), iv (2 : Int32), iv l1, iv s1, iv l0, iv s0, iv gv, rv b32, rv b38, .unset, .unset] [(.int (s1.toUInt32.toUInt16.toUInt32.toInt32)), (.int (0 : Int32)), (.ref b32)])) rfl rfl (hb hby at_271)
    have V58 : Arv Z h58 b32 k32 .char (4 : Int32) [(.int (nar .char (s1.toUInt32.toUInt16.toUInt32.toInt32))), (.int (nar .char gv)), (.int (nar .char gv)), (.int (nar .char gv))] (.int (0 : Int32)) := Arv.set Ar58 q58 S58 M58 H58 G58 (fits_nar_char _) W58 0 rfl (Nat.le_of_ble_eq_true rfl)
    have N58 := Fr.snoc X58 N42 g_b32
    have Vn_59 := (V42.other W58 (Ne.symm ne_b32_b38))
    obtain ⟨cl60, Ar60, q60, S60, M60, H60, G60⟩ := Vn_59
    have hin60 : ¬ ((0 : Int32) < 0 ∨ cl60.slots.size ≤ ((0 : Int32)).toNatClampNeg) := inb_of S60 ⟨by decide, by decide⟩
    obtain ⟨T60, h60, X60, e60, W60, st60⟩ := stC X58 hx hZ e58 Ar60 (j := (0 : Int32)) hin60 (g := (mkF m 278 #[iv i1, .val (.long j2), .second, iv i3, iv i4, iv l2, iv (l2 - b1), iv (2 : Int32), iv l1, iv s1, iv l0, iv s0, iv gv, rv b32, rv b38, .unset, .unset] [(.int (l1.toUInt32.toUInt16.toUInt32.toInt32)), (.int (0 : Int32)), (.ref b38)])) rfl rfl (hb hby at_278)
    have V60 : Arv Z h60 b38 k38 .char (4 : Int32) [(.int (nar .char (l1.toUInt32.toUInt16.toUInt32.toInt32))), (.int (nar .char gv)), (.int (nar .char gv)), (.int (nar .char gv))] (.int (0 : Int32)) := Arv.set Ar60 q60 S60 M60 H60 G60 (fits_nar_char _) W60 0 rfl (Nat.le_of_ble_eq_true rfl)
    have N60 := Fr.snoc X60 N58 g_b38
    have Vn_61 := (V58.other W60 ne_b32_b38)
    obtain ⟨cl62, Ar62, q62, S62, M62, H62, G62⟩ := Vn_61
    have hin62 : ¬ ((1 : Int32) < 0 ∨ cl62.slots.size ≤ ((1 : Int32)).toNatClampNeg) := inb_of S62 ⟨by decide, by decide⟩
    obtain ⟨T62, h62, X62, e62, W62, st62⟩ := stC X60 hx hZ e60 Ar62 (j := (1 : Int32)) hin62 (g := (mkF m 285 #[iv i1, .val (.long j2), .second, iv i3, iv i4, iv l2, iv (l2 - b1), iv (2 : Int32), iv l1, iv s1, iv l0, iv s0, iv gv, rv b32, rv b38, .unset, .unset] [(.int ((l2 - b1).toUInt32.toUInt16.toUInt32.toInt32)), (.int (1 : Int32)), (.ref b32)])) rfl rfl (hb hby at_285)
    have V62 : Arv Z h62 b32 k32 .char (4 : Int32) [(.int (nar .char (s1.toUInt32.toUInt16.toUInt32.toInt32))), (.int (nar .char ((l2 - b1).toUInt32.toUInt16.toUInt32.toInt32))), (.int (nar .char gv)), (.int (nar .char gv))] (.int (0 : Int32)) := Arv.set Ar62 q62 S62 M62 H62 G62 (fits_nar_char _) W62 1 rfl (Nat.le_of_ble_eq_true rfl)
    have N62 := Fr.snoc X62 N60 g_b32
    have Vn_63 := (V60.other W62 (Ne.symm ne_b32_b38))
    obtain ⟨cl64, Ar64, q64, S64, M64, H64, G64⟩ := Vn_63
    have hin64 : ¬ ((1 : Int32) < 0 ∨ cl64.slots.size ≤ ((1 : Int32)).toNatClampNeg) := inb_of S64 ⟨by decide, by decide⟩
    obtain ⟨T64, h64, X64, e64, W64, st64⟩ := stC X62 hx hZ e62 Ar64 (j := (1 : Int32)) hin64 (g := (mkF m 292 #[iv i1, .val (.long j2), .second, iv i3, iv i4, iv l2, iv (l2 - b1), iv (2 : Int32), iv l1, iv s1, iv l0, iv s0, iv gv, rv b32, rv b38, .unset, .unset] [(.int (l2.toUInt32.toUInt16.toUInt32.toInt32)), (.int (1 : Int32)), (.ref b38)])) rfl rfl (hb hby at_292)
    have V64 : Arv Z h64 b38 k38 .char (4 : Int32) [(.int (nar .char (l1.toUInt32.toUInt16.toUInt32.toInt32))), (.int (nar .char (l2.toUInt32.toUInt16.toUInt32.toInt32))), (.int (nar .char gv)), (.int (nar .char gv))] (.int (0 : Int32)) := Arv.set Ar64 q64 S64 M64 H64 G64 (fits_nar_char _) W64 1 rfl (Nat.le_of_ble_eq_true rfl)
    have N64 := Fr.snoc X64 N62 g_b38
    have Zs65 : n0 ≤ h64.size := (Nat.le_trans (Nat.le_trans (Nat.le_trans (Nat.le_trans (Nat.le_trans (Nat.le_trans (Nat.le_trans (Nat.le_trans (Nat.le_trans Zs37 E38.1) (Keep.of_wr W39).1) (Keep.of_wr W40).1) (Keep.of_wr W41).1) (Keep.of_wr W42).1) (Keep.of_wr W58).1) (Keep.of_wr W60).1) (Keep.of_wr W62).1) (Keep.of_wr W64).1)
    have Vn_66 := (V62.other W64 ne_b32_b38)
    obtain ⟨T67, h67, X67, e67, E67, A67, D67, -, st67⟩ := newO X64 hx hZ hown (hw _ (List.mem_of_getElem? (i := 8) rfl)) (hw _ (List.mem_of_getElem? (i := 9) rfl)) (hw _ (List.mem_of_getElem? (i := 10) rfl)) e64 (g := (mkF m 380 #[iv i1, .val (.long j2), .second, iv i3, iv i4, iv l2, iv (l2 - b1), iv (2 : Int32), iv l1, iv s1, iv l0, iv s0, iv gv, rv b32, rv b38, iv (((l1 - s1) + (1 : Int32)) + ((l2 - (l2 - b1)) + (1 : Int32))), .unset] [])) rfl (hb hby at_380) (by decide) (by decide)
    obtain ⟨b67, g67⟩ : ∃ z, z = h64.size := ⟨_, rfl⟩
    rw [← g67] at A67 D67 st67
    have g_b67 : n0 ≤ b67 := Nat.le_trans Zs65 (Nat.le_of_eq g67.symm)
    have sz_b67 : h0.size ≤ b67 := Nat.le_trans ((((((((((((((((Keep.refl h0 []).ext E32).wr W33 (Or.inr sz_b32)).wr W34 (Or.inr sz_b32)).wr W35 (Or.inr sz_b32)).wr W36 (Or.inr sz_b32)).ext E38).wr W39 (Or.inr sz_b38)).wr W40 (Or.inr sz_b38)).wr W41 (Or.inr sz_b38)).wr W42 (Or.inr sz_b38)).wr W58 (Or.inr sz_b32)).wr W60 (Or.inr sz_b38)).wr W62 (Or.inr sz_b32)).wr W64 (Or.inr sz_b38))).1 (Nat.le_of_eq g67.symm)
    have ne_b32_b67 : b32 ≠ b67 := Nat.ne_of_lt (Nat.lt_of_lt_of_le Vn_66.lt (Nat.le_of_eq g67.symm))
    have ne_b38_b67 : b38 ≠ b67 := Nat.ne_of_lt (Nat.lt_of_lt_of_le V64.lt (Nat.le_of_eq g67.symm))
    have F_starts_b67 : Fld Z h67 b67 "com/example/bitstrata/bitstrata/RunContainer" "starts" "[C" .null := D67 (Or.inl (hw _ (List.mem_of_getElem? (i := 18) rfl))) (ty := (.array .char)) (by decide)
    have F_lasts_b67 : Fld Z h67 b67 "com/example/bitstrata/bitstrata/RunContainer" "lasts" "[C" .null := D67 (Or.inl (hw _ (List.mem_of_getElem? (i := 20) rfl))) (ty := (.array .char)) (by decide)
    have F_runCount_b67 : Fld Z h67 b67 "com/example/bitstrata/bitstrata/RunContainer" "runCount" "I" (.int (0 : Int32)) := D67 (Or.inl (hw _ (List.mem_of_getElem? (i := 22) rfl))) (ty := .int) (by decide)
    have F_cardinality_b67 : Fld Z h67 b67 "com/example/bitstrata/bitstrata/RunContainer" "cardinality" "I" (.int (0 : Int32)) := D67 (Or.inl (hw _ (List.mem_of_getElem? (i := 24) rfl))) (ty := .int) (by decide)
    have Zs69 : n0 ≤ h67.size := (Nat.le_trans Zs65 E67.1)
    obtain ⟨_, _, ⟨T68, L68, k68, n68⟩, -, X68, ⟨Lc68, hQ68, l68, y68, z68⟩, st68⟩ := X67.specialBack hx (y := (⟨"com/example/bitstrata/bitstrata/RunContainer", "<init>", "([C[CII)V"⟩ : MethodName)) rfl hown (mvT hZ (hw _ (List.mem_of_getElem? (i := 11) rfl))) (mvT hZ (hw _ (List.mem_of_getElem? (i := 12) rfl))) (mvT hZ (hw _ (List.mem_of_getElem? (i := 13) rfl))) (by decide) (backOf (W := 1) (rm2 l Z a0 hw [] b67 b32 b38 (2 : Int32) (((l1 - s1) + (1 : Int32)) + ((l2 - (l2 - b1)) + (1 : Int32))) h67 n0 Zs69 A67 g_b67 F_starts_b67 F_lasts_b67 F_runCount_b67 F_cardinality_b67) hZ (hw _ (List.mem_of_getElem? (i := 13) rfl)) (hw _ (List.mem_of_getElem? (i := 10) rfl)) (by decide) (by decide)) (g := (mkF m 392 #[iv i1, .val (.long j2), .second, iv i3, iv i4, iv l2, iv (l2 - b1), iv (2 : Int32), iv l1, iv s1, iv l0, iv s0, iv gv, rv b32, rv b38, iv (((l1 - s1) + (1 : Int32)) + ((l2 - (l2 - b1)) + (1 : Int32))), .unset] [(.int (((l1 - s1) + (1 : Int32)) + ((l2 - (l2 - b1)) + (1 : Int32)))), (.int (2 : Int32)), (.ref b38), (.ref b32), (.ref b67), (.ref b67)])) rfl (by rw [hml]; rfl) (Steps.refl _) (a := b67) (argsL := [(.ref b32), (.ref b38), (.int (2 : Int32)), (.int (((l1 - s1) + (1 : Int32)) + ((l2 - (l2 - b1)) + (1 : Int32))))]) (rest := [(.ref b67)]) (lenOf pd_1 rfl) rfl (by show 2 * 0 + _ ≤ _; exact Nat.le_of_eq rfl) (hb hby at_392) (fun _ _ => ⟨rfl, e67, (by decide : 3 + 0 ≤ _), (by decide : 12 + 0 ≤ _)⟩)
    dsimp only [Pt.U, Pt.locs, Pt.cells, Pt.slots] at X68 l68 y68 z68 st68 hQ68
    subst l68 y68 z68
    obtain ⟨rfl, N68q, K68, E68c, Fa68, Fb68, Fc68, Fd68⟩ := hQ68
    have N68 := Fr.app N64 N68q
    have Vn_70 := ((V64.ext E67).keep K68 (ninS ne_b38_b67 nin0))
    have Zs72 : n0 ≤ T68.heap.size := (Nat.le_trans Zs69 K68.1)
    obtain ⟨cq71, kq71, q71a, q71b, q71c⟩ := isOf hZ rfl E68c
    obtain ⟨_, _, ⟨T71, L71, k71, n71⟩, -, X71, ⟨Lc71, hQ71, l71, y71, z71⟩, st71⟩ := X68.virtualBack hx (y := (⟨"com/example/bitstrata/bitstrata/RunContainer", "last", "()C"⟩ : MethodName)) (z := (⟨"com/example/bitstrata/bitstrata/RunContainer", "last", "()C"⟩ : MethodName)) hown (mvT hZ (hw _ (List.mem_of_getElem? (i := 25) rfl))) (mvT hZ (hw _ (List.mem_of_getElem? (i := 26) rfl))) (notFace_of_selects (args := #[]) (mvT hZ (hw _ (List.mem_of_getElem? (i := 28) rfl)))) (mvT hZ (hw _ (List.mem_of_getElem? (i := 28) rfl))) (mvT hZ (hw _ (List.mem_of_getElem? (i := 27) rfl))) (by decide) (backOf (W := 0) (rm4 l Z a0 hw [] b67 b38 (2 : Int32) k38 [(.int (nar .char (l1.toUInt32.toUInt16.toUInt32.toInt32))), (.int (nar .char (l2.toUInt32.toUInt16.toUInt32.toInt32))), (.int (nar .char gv)), (.int (nar .char gv))] (nar .char (l2.toUInt32.toUInt16.toUInt32.toInt32)) T68.heap n0 Zs72 Fb68 Fc68 Vn_70 ⟨by decide, by decide⟩ rfl) hZ (hw _ (List.mem_of_getElem? (i := 29) rfl)) (hw _ (List.mem_of_getElem? (i := 10) rfl)) (by decide) (by decide)) q71a q71c (g := (mkF m 399 #[iv i1, .val (.long j2), .second, iv i3, iv i4, iv l2, iv (l2 - b1), iv (2 : Int32), iv l1, iv s1, iv l0, iv s0, iv gv, rv b32, rv b38, iv (((l1 - s1) + (1 : Int32)) + ((l2 - (l2 - b1)) + (1 : Int32))), rv b67] [(.ref b67)])) rfl (by rw [hml]; rfl) (Steps.refl _) (argsL := []) (rest := []) (lenOf pd_2 rfl) rfl (by show 2 * 0 + _ ≤ _; exact Nat.le_of_eq rfl) (hb hby at_399) (fun _ _ => ⟨rfl, rfl, (by decide : 3 + 0 ≤ _), (by decide : 12 + 0 ≤ _)⟩)
    dsimp only [Pt.U, Pt.locs, Pt.cells, Pt.slots] at X71 l71 y71 z71 st71 hQ71
    subst l71 y71 z71
    obtain ⟨rfl, N71q, e71q⟩ := hQ71
    have N71 := Fr.app N68 N71q
    have e71 : T71.heap = T68.heap := e71q
    have pre73 : ∀ t, own_S p e below T71 m 413 #[iv i1, .val (.long j2), .second, iv i3, iv i4, iv l2, iv (l2 - b1), iv (2 : Int32), iv l1, iv s1, iv l0, iv s0, iv gv, rv b32, rv b38, iv (((l1 - s1) + (1 : Int32)) + ((l2 - (l2 - b1)) + (1 : Int32))), rv b67] [(.int (1 : Int32))] t → Steps p.tables e below (s₁.setTop (entryFrame m #[(.int i1), (.long j2), (.int i3), (.int i4)] maxLocals)) t := fun t k => pre43 t (by
      show own_S p e below T42 m 227 #[iv i1, .val (.long j2), .second, iv i3, iv i4, iv l2, iv (l2 - b1), iv (2 : Int32), iv l1, iv s1, iv l0, iv s0, iv gv, rv b32, rv b38, .unset, .unset] [] _
      refine XS.iload X42.here hx rfl (hb hby at_227) rfl ?_
      show own_S p e below T42 m 229 #[iv i1, .val (.long j2), .second, iv i3, iv i4, iv l2, iv (l2 - b1), iv (2 : Int32), iv l1, iv s1, iv l0, iv s0, iv gv, rv b32, rv b38, .unset, .unset] [(.int (2 : Int32))] _
      refine XS.iconst X42.here hx rfl (hb hby at_229) ?_
      show own_S p e below T42 m 230 #[iv i1, .val (.long j2), .second, iv i3, iv i4, iv l2, iv (l2 - b1), iv (2 : Int32), iv l1, iv s1, iv l0, iv s0, iv gv, rv b32, rv b38, .unset, .unset] [(.int (1 : Int32)), (.int (2 : Int32))] _
      refine XS.icmpYes X42.here hx rfl (pc0 := 230) (pc' := 259) rfl (hb hby at_230) rfl (feq (by decide : ¬ ((2 : Int32) = (1 : Int32)))).2 (by decide) (by decide) ?_
      show own_S p e below T42 m 259 #[iv i1, .val (.long j2), .second, iv i3, iv i4, iv l2, iv (l2 - b1), iv (2 : Int32), iv l1, iv s1, iv l0, iv s0, iv gv, rv b32, rv b38, .unset, .unset] [] _
      refine XS.iload X42.here hx rfl (hb hby at_259) rfl ?_
      show own_S p e below T42 m 261 #[iv i1, .val (.long j2), .second, iv i3, iv i4, iv l2, iv (l2 - b1), iv (2 : Int32), iv l1, iv s1, iv l0, iv s0, iv gv, rv b32, rv b38, .unset, .unset] [(.int (2 : Int32))] _
      refine XS.iconst X42.here hx rfl (hb hby at_261) ?_
      show own_S p e below T42 m 262 #[iv i1, .val (.long j2), .second, iv i3, iv i4, iv l2, iv (l2 - b1), iv (2 : Int32), iv l1, iv s1, iv l0, iv s0, iv gv, rv b32, rv b38, .unset, .unset] [(.int (2 : Int32)), (.int (2 : Int32))] _
      refine XS.icmpNo X42.here hx rfl (hb hby at_262) rfl (teq (by decide : (2 : Int32) = (2 : Int32))).2 ?_
      show own_S p e below T42 m 265 #[iv i1, .val (.long j2), .second, iv i3, iv i4, iv l2, iv (l2 - b1), iv (2 : Int32), iv l1, iv s1, iv l0, iv s0, iv gv, rv b32, rv b38, .unset, .unset] [] _
      refine XS.aload X42.here hx rfl (hb hby at_265) rfl rfl ?_
      show own_S p e below T42 m 267 #[iv i1, .val (.long j2), .second, iv i3, iv i4, iv l2, iv (l2 - b1), iv (2 : Int32), iv l1, iv s1, iv l0, iv s0, iv gv, rv b32, rv b38, .unset, .unset] [(.ref b32)] _
      refine XS.iconst X42.here hx rfl (hb hby at_267) ?_
      show own_S p e below T42 m 268 #[iv i1, .val (.long j2), .second, iv i3, iv i4, iv l2, iv (l2 - b1), iv (2 : Int32), iv l1, iv s1, iv l0, iv s0, iv gv, rv b32, rv b38, .unset, .unset] [(.int (0 : Int32)), (.ref b32)] _
      refine XS.iload X42.here hx rfl (hb hby at_268) rfl ?_
      show own_S p e below T42 m 270 #[iv i1, .val (.long j2), .second, iv i3, iv i4, iv l2, iv (l2 - b1), iv (2 : Int32), iv l1, iv s1, iv l0, iv s0, iv gv, rv b32, rv b38, .unset, .unset] [(.int s1), (.int (0 : Int32)), (.ref b32)] _
      refine XS.i2c X42.here hx rfl (hb hby at_270) rfl ?_
      show own_S p e below T42 m 271 #[iv i1, .val (.long j2), .second, iv i3, iv i4, iv l2, iv (l2 - b1), iv (2 : Int32), iv l1, iv s1, iv l0, iv s0, iv gv, rv b32, rv b38, .unset, .unset] [(.int (s1.toUInt32.toUInt16.toUInt32.toInt32)), (.int (0 : Int32)), (.ref b32)] _
      refine st58 _ ?_
      show own_S p e below T58 m 272 #[iv i1, .val (.long j2), .second, iv i3, iv i4, iv l2, iv (l2 - b1), iv (2 : Int32), iv l1, iv s1, iv l0, iv s0, iv gv, rv b32, rv b38, .unset, .unset] [] _
      refine XS.aload X58.here hx rfl (hb hby at_272) rfl rfl ?_
      show own_S p e below T58 m 274 #[iv i1, .val (.long j2), .second, iv i3, iv i4, iv l2, iv (l2 - b1), iv (2 : Int32), iv l1, iv s1, iv l0, iv s0, iv gv, rv b32, rv b38, .unset, .unset] [(.ref b38)] _
      refine XS.iconst X58.here hx rfl (hb hby at_274) ?_
      show own_S p e below T58 m 275 #[iv i1, .val (.long j2), .second, iv i3, iv i4, iv l2, iv (l2 - b1), iv (2 : Int32), iv l1, iv s1, iv l0, iv s0, iv gv, rv b32, rv b38, .unset, .unset] [(.int (0 : Int32)), (.ref b38)] _
      refine XS.iload X58.here hx rfl (hb hby at_275) rfl ?_
      show own_S p e below T58 m 277 #[iv i1, .val (.long j2), .second, iv i3, iv i4, iv l2, iv (l2 - b1), iv (2 : Int32), iv l1, iv s1, iv l0, iv s0, iv gv, rv b32, rv b38, .unset, .unset] [(.int l1), (.int (0 : Int32)), (.ref b38)] _
      refine XS.i2c X58.here hx rfl (hb hby at_277) rfl ?_
      show own_S p e below T58 m 278 #[iv i1, .val (.long j2), .second, iv i3, iv i4, iv l2, iv (l2 - b1), iv (2 : Int32), iv l1, iv s1, iv l0, iv s0, iv gv, rv b32, rv b38, .unset, .unset] [(.int (l1.toUInt32.toUInt16.toUInt32.toInt32)), (.int (0 : Int32)), (.ref b38)] _
      refine st60 _ ?_
      show own_S p e below T60 m 279 #[iv i1, .val (.long j2), .second, iv i3, iv i4, iv l2, iv (l2 - b1), iv (2 : Int32), iv l1, iv s1, iv l0, iv s0, iv gv, rv b32, rv b38, .unset, .unset] [] _
      refine XS.aload X60.here hx rfl (hb hby at_279) rfl rfl ?_
      show own_S p e below T60 m 281 #[iv i1, .val (.long j2), .second, iv i3, iv i4, iv l2, iv (l2 - b1), iv (2 : Int32), iv l1, iv s1, iv l0, iv s0, iv gv, rv b32, rv b38, .unset, .unset] [(.ref b32)] _
      refine XS.iconst X60.here hx rfl (hb hby at_281) ?_
      show own_S p e below T60 m 282 #[iv i1, .val (.long j2), .second, iv i3, iv i4, iv l2, iv (l2 - b1), iv (2 : Int32), iv l1, iv s1, iv l0, iv s0, iv gv, rv b32, rv b38, .unset, .unset] [(.int (1 : Int32)), (.ref b32)] _
      refine XS.iload X60.here hx rfl (hb hby at_282) rfl ?_
      show own_S p e below T60 m 284 #[iv i1, .val (.long j2), .second, iv i3, iv i4, iv l2, iv (l2 - b1), iv (2 : Int32), iv l1, iv s1, iv l0, iv s0, iv gv, rv b32, rv b38, .unset, .unset] [(.int (l2 - b1)), (.int (1 : Int32)), (.ref b32)] _
      refine XS.i2c X60.here hx rfl (hb hby at_284) rfl ?_
      show own_S p e below T60 m 285 #[iv i1, .val (.long j2), .second, iv i3, iv i4, iv l2, iv (l2 - b1), iv (2 : Int32), iv l1, iv s1, iv l0, iv s0, iv gv, rv b32, rv b38, .unset, .unset] [(.int ((l2 - b1).toUInt32.toUInt16.toUInt32.toInt32)), (.int (1 : Int32)), (.ref b32)] _
      refine st62 _ ?_
      show own_S p e below T62 m 286 #[iv i1, .val (.long j2), .second, iv i3, iv i4, iv l2, iv (l2 - b1), iv (2 : Int32), iv l1, iv s1, iv l0, iv s0, iv gv, rv b32, rv b38, .unset, .unset] [] _
      refine XS.aload X62.here hx rfl (hb hby at_286) rfl rfl ?_
      show own_S p e below T62 m 288 #[iv i1, .val (.long j2), .second, iv i3, iv i4, iv l2, iv (l2 - b1), iv (2 : Int32), iv l1, iv s1, iv l0, iv s0, iv gv, rv b32, rv b38, .unset, .unset] [(.ref b38)] _
      refine XS.iconst X62.here hx rfl (hb hby at_288) ?_
      show own_S p e below T62 m 289 #[iv i1, .val (.long j2), .second, iv i3, iv i4, iv l2, iv (l2 - b1), iv (2 : Int32), iv l1, iv s1, iv l0, iv s0, iv gv, rv b32, rv b38, .unset, .unset] [(.int (1 : Int32)), (.ref b38)] _
      refine XS.iload X62.here hx rfl (hb hby at_289) rfl ?_
      show own_S p e below T62 m 291 #[iv i1, .val (.long j2), .second, iv i3, iv i4, iv l2, iv (l2 - b1), iv (2 : Int32), iv l1, iv s1, iv l0, iv s0, iv gv, rv b32, rv b38, .unset, .unset] [(.int l2), (.int (1 : Int32)), (.ref b38)] _
      refine XS.i2c X62.here hx rfl (hb hby at_291) rfl ?_
      show own_S p e below T62 m 292 #[iv i1, .val (.long j2), .second, iv i3, iv i4, iv l2, iv (l2 - b1), iv (2 : Int32), iv l1, iv s1, iv l0, iv s0, iv gv, rv b32, rv b38, .unset, .unset] [(.int (l2.toUInt32.toUInt16.toUInt32.toInt32)), (.int (1 : Int32)), (.ref b38)] _
      refine st64 _ ?_
      show own_S p e below T64 m 293 #[iv i1, .val (.long j2), .second, iv i3, iv i4, iv l2, iv (l2 - b1), iv (2 : Int32), iv l1, iv s1, iv l0, iv s0, iv gv, rv b32, rv b38, .unset, .unset] [] _
      refine XS.iload X64.here hx rfl (hb hby at_293) rfl ?_
      show own_S p e below T64 m 295 #[iv i1, .val (.long j2), .second, iv i3, iv i4, iv l2, iv (l2 - b1), iv (2 : Int32), iv l1, iv s1, iv l0, iv s0, iv gv, rv b32, rv b38, .unset, .unset] [(.int l1)] _
      refine XS.iload X64.here hx rfl (hb hby at_295) rfl ?_
      show own_S p e below T64 m 297 #[iv i1, .val (.long j2), .second, iv i3, iv i4, iv l2, iv (l2 - b1), iv (2 : Int32), iv l1, iv s1, iv l0, iv s0, iv gv, rv b32, rv b38, .unset, .unset] [(.int s1), (.int l1)] _
      refine XS.isub X64.here hx rfl (hb hby at_297) rfl ?_
      show own_S p e below T64 m 298 #[iv i1, .val (.long j2), .second, iv i3, iv i4, iv l2, iv (l2 - b1), iv (2 : Int32), iv l1, iv s1, iv l0, iv s0, iv gv, rv b32, rv b38, .unset, .unset] [(.int (l1 - s1))] _
      refine XS.iconst X64.here hx rfl (hb hby at_298) ?_
      show own_S p e below T64 m 299 #[iv i1, .val (.long j2), .second, iv i3, iv i4, iv l2, iv (l2 - b1), iv (2 : Int32), iv l1, iv s1, iv l0, iv s0, iv gv, rv b32, rv b38, .unset, .unset] [(.int (1 : Int32)), (.int (l1 - s1))] _
      refine XS.iadd X64.here hx rfl (hb hby at_299) rfl ?_
      show own_S p e below T64 m 300 #[iv i1, .val (.long j2), .second, iv i3, iv i4, iv l2, iv (l2 - b1), iv (2 : Int32), iv l1, iv s1, iv l0, iv s0, iv gv, rv b32, rv b38, .unset, .unset] [(.int ((l1 - s1) + (1 : Int32)))] _
      refine XS.iload X64.here hx rfl (hb hby at_300) rfl ?_
      show own_S p e below T64 m 302 #[iv i1, .val (.long j2), .second, iv i3, iv i4, iv l2, iv (l2 - b1), iv (2 : Int32), iv l1, iv s1, iv l0, iv s0, iv gv, rv b32, rv b38, .unset, .unset] [(.int l2), (.int ((l1 - s1) + (1 : Int32)))] _
      refine XS.iload X64.here hx rfl (hb hby at_302) rfl ?_
      show own_S p e below T64 m 304 #[iv i1, .val (.long j2), .second, iv i3, iv i4, iv l2, iv (l2 - b1), iv (2 : Int32), iv l1, iv s1, iv l0, iv s0, iv gv, rv b32, rv b38, .unset, .unset] [(.int (l2 - b1)), (.int l2), (.int ((l1 - s1) + (1 : Int32)))] _
      refine XS.isub X64.here hx rfl (hb hby at_304) rfl ?_
      show own_S p e below T64 m 305 #[iv i1, .val (.long j2), .second, iv i3, iv i4, iv l2, iv (l2 - b1), iv (2 : Int32), iv l1, iv s1, iv l0, iv s0, iv gv, rv b32, rv b38, .unset, .unset] [(.int (l2 - (l2 - b1))), (.int ((l1 - s1) + (1 : Int32)))] _
      refine XS.iconst X64.here hx rfl (hb hby at_305) ?_
      show own_S p e below T64 m 306 #[iv i1, .val (.long j2), .second, iv i3, iv i4, iv l2, iv (l2 - b1), iv (2 : Int32), iv l1, iv s1, iv l0, iv s0, iv gv, rv b32, rv b38, .unset, .unset] [(.int (1 : Int32)), (.int (l2 - (l2 - b1))), (.int ((l1 - s1) + (1 : Int32)))] _
      refine XS.iadd X64.here hx rfl (hb hby at_306) rfl ?_
      show own_S p e below T64 m 307 #[iv i1, .val (.long j2), .second, iv i3, iv i4, iv l2, iv (l2 - b1), iv (2 : Int32), iv l1, iv s1, iv l0, iv s0, iv gv, rv b32, rv b38, .unset, .unset] [(.int ((l2 - (l2 - b1)) + (1 : Int32))), (.int ((l1 - s1) + (1 : Int32)))] _
      refine XS.iadd X64.here hx rfl (hb hby at_307) rfl ?_
      show own_S p e below T64 m 308 #[iv i1, .val (.long j2), .second, iv i3, iv i4, iv l2, iv (l2 - b1), iv (2 : Int32), iv l1, iv s1, iv l0, iv s0, iv gv, rv b32, rv b38, .unset, .unset] [(.int (((l1 - s1) + (1 : Int32)) + ((l2 - (l2 - b1)) + (1 : Int32))))] _
      refine XS.istore X64.here hx rfl (hb hby at_308) rfl (l' := #[iv i1, .val (.long j2), .second, iv i3, iv i4, iv l2, iv (l2 - b1), iv (2 : Int32), iv l1, iv s1, iv l0, iv s0, iv gv, rv b32, rv b38, iv (((l1 - s1) + (1 : Int32)) + ((l2 - (l2 - b1)) + (1 : Int32))), .unset]) rfl ?_
      show own_S p e below T64 m 310 #[iv i1, .val (.long j2), .second, iv i3, iv i4, iv l2, iv (l2 - b1), iv (2 : Int32), iv l1, iv s1, iv l0, iv s0, iv gv, rv b32, rv b38, iv (((l1 - s1) + (1 : Int32)) + ((l2 - (l2 - b1)) + (1 : Int32))), .unset] [] _
      refine XS.goto X64.here hx rfl (pc0 := 310) (pc' := 380) rfl (hb hby at_310) (by decide) (by decide) ?_
      show own_S p e below T64 m 380 #[iv i1, .val (.long j2), .second, iv i3, iv i4, iv l2, iv (l2 - b1), iv (2 : Int32), iv l1, iv s1, iv l0, iv s0, iv gv, rv b32, rv b38, iv (((l1 - s1) + (1 : Int32)) + ((l2 - (l2 - b1)) + (1 : Int32))), .unset] [] _
      refine st67 _ ?_
      show own_S p e below T67 m 383 #[iv i1, .val (.long j2), .second, iv i3, iv i4, iv l2, iv (l2 - b1), iv (2 : Int32), iv l1, iv s1, iv l0, iv s0, iv gv, rv b32, rv b38, iv (((l1 - s1) + (1 : Int32)) + ((l2 - (l2 - b1)) + (1 : Int32))), .unset] [(.ref b67)] _
      refine XS.dup X67.here hx rfl (hb hby at_383) rfl rfl ?_
      show own_S p e below T67 m 384 #[iv i1, .val (.long j2), .second, iv i3, iv i4, iv l2, iv (l2 - b1), iv (2 : Int32), iv l1, iv s1, iv l0, iv s0, iv gv, rv b32, rv b38, iv (((l1 - s1) + (1 : Int32)) + ((l2 - (l2 - b1)) + (1 : Int32))), .unset] [(.ref b67), (.ref b67)] _
      refine XS.aload X67.here hx rfl (hb hby at_384) rfl rfl ?_
      show own_S p e below T67 m 386 #[iv i1, .val (.long j2), .second, iv i3, iv i4, iv l2, iv (l2 - b1), iv (2 : Int32), iv l1, iv s1, iv l0, iv s0, iv gv, rv b32, rv b38, iv (((l1 - s1) + (1 : Int32)) + ((l2 - (l2 - b1)) + (1 : Int32))), .unset] [(.ref b32), (.ref b67), (.ref b67)] _
      refine XS.aload X67.here hx rfl (hb hby at_386) rfl rfl ?_
      show own_S p e below T67 m 388 #[iv i1, .val (.long j2), .second, iv i3, iv i4, iv l2, iv (l2 - b1), iv (2 : Int32), iv l1, iv s1, iv l0, iv s0, iv gv, rv b32, rv b38, iv (((l1 - s1) + (1 : Int32)) + ((l2 - (l2 - b1)) + (1 : Int32))), .unset] [(.ref b38), (.ref b32), (.ref b67), (.ref b67)] _
      refine XS.iload X67.here hx rfl (hb hby at_388) rfl ?_
      show own_S p e below T67 m 390 #[iv i1, .val (.long j2), .second, iv i3, iv i4, iv l2, iv (l2 - b1), iv (2 : Int32), iv l1, iv s1, iv l0, iv s0, iv gv, rv b32, rv b38, iv (((l1 - s1) + (1 : Int32)) + ((l2 - (l2 - b1)) + (1 : Int32))), .unset] [(.int (2 : Int32)), (.ref b38), (.ref b32), (.ref b67), (.ref b67)] _
      refine XS.iload X67.here hx rfl (hb hby at_390) rfl ?_
      show own_S p e below T67 m 392 #[iv i1, .val (.long j2), .second, iv i3, iv i4, iv l2, iv (l2 - b1), iv (2 : Int32), iv l1, iv s1, iv l0, iv s0, iv gv, rv b32, rv b38, iv (((l1 - s1) + (1 : Int32)) + ((l2 - (l2 - b1)) + (1 : Int32))), .unset] [(.int (((l1 - s1) + (1 : Int32)) + ((l2 - (l2 - b1)) + (1 : Int32)))), (.int (2 : Int32)), (.ref b38), (.ref b32), (.ref b67), (.ref b67)] _
      refine st68.trans ?_
      show own_S p e below T68 m 395 #[iv i1, .val (.long j2), .second, iv i3, iv i4, iv l2, iv (l2 - b1), iv (2 : Int32), iv l1, iv s1, iv l0, iv s0, iv gv, rv b32, rv b38, iv (((l1 - s1) + (1 : Int32)) + ((l2 - (l2 - b1)) + (1 : Int32))), .unset] [(.ref b67)] _
      refine XS.astore X68.here hx rfl (hb hby at_395) rfl rfl (l' := #[iv i1, .val (.long j2), .second, iv i3, iv i4, iv l2, iv (l2 - b1), iv (2 : Int32), iv l1, iv s1, iv l0, iv s0, iv gv, rv b32, rv b38, iv (((l1 - s1) + (1 : Int32)) + ((l2 - (l2 - b1)) + (1 : Int32))), rv b67]) rfl ?_
      show own_S p e below T68 m 397 #[iv i1, .val (.long j2), .second, iv i3, iv i4, iv l2, iv (l2 - b1), iv (2 : Int32), iv l1, iv s1, iv l0, iv s0, iv gv, rv b32, rv b38, iv (((l1 - s1) + (1 : Int32)) + ((l2 - (l2 - b1)) + (1 : Int32))), rv b67] [] _
      refine XS.aload X68.here hx rfl (hb hby at_397) rfl rfl ?_
      show own_S p e below T68 m 399 #[iv i1, .val (.long j2), .second, iv i3, iv i4, iv l2, iv (l2 - b1), iv (2 : Int32), iv l1, iv s1, iv l0, iv s0, iv gv, rv b32, rv b38, iv (((l1 - s1) + (1 : Int32)) + ((l2 - (l2 - b1)) + (1 : Int32))), rv b67] [(.ref b67)] _
      refine st71.trans ?_
      show own_S p e below T71 m 402 #[iv i1, .val (.long j2), .second, iv i3, iv i4, iv l2, iv (l2 - b1), iv (2 : Int32), iv l1, iv s1, iv l0, iv s0, iv gv, rv b32, rv b38, iv (((l1 - s1) + (1 : Int32)) + ((l2 - (l2 - b1)) + (1 : Int32))), rv b67] [(.int (nar .char (nar .char (l2.toUInt32.toUInt16.toUInt32.toInt32))))] _
      refine XS.iload X71.here hx rfl (hb hby at_402) rfl ?_
      show own_S p e below T71 m 404 #[iv i1, .val (.long j2), .second, iv i3, iv i4, iv l2, iv (l2 - b1), iv (2 : Int32), iv l1, iv s1, iv l0, iv s0, iv gv, rv b32, rv b38, iv (((l1 - s1) + (1 : Int32)) + ((l2 - (l2 - b1)) + (1 : Int32))), rv b67] [(.int l2), (.int (nar .char (nar .char (l2.toUInt32.toUInt16.toUInt32.toInt32))))] _
      refine XS.i2c X71.here hx rfl (hb hby at_404) rfl ?_
      show own_S p e below T71 m 405 #[iv i1, .val (.long j2), .second, iv i3, iv i4, iv l2, iv (l2 - b1), iv (2 : Int32), iv l1, iv s1, iv l0, iv s0, iv gv, rv b32, rv b38, iv (((l1 - s1) + (1 : Int32)) + ((l2 - (l2 - b1)) + (1 : Int32))), rv b67] [(.int (l2.toUInt32.toUInt16.toUInt32.toInt32)), (.int (nar .char (nar .char (l2.toUInt32.toUInt16.toUInt32.toInt32))))] _
      refine XS.icmpNo X71.here hx rfl (hb hby at_405) rfl (teq (by show nar .char (nar .char (nar .char l2)) = nar .char l2; rw [own_nn, own_nn])).2 ?_
      show own_S p e below T71 m 408 #[iv i1, .val (.long j2), .second, iv i3, iv i4, iv l2, iv (l2 - b1), iv (2 : Int32), iv l1, iv s1, iv l0, iv s0, iv gv, rv b32, rv b38, iv (((l1 - s1) + (1 : Int32)) + ((l2 - (l2 - b1)) + (1 : Int32))), rv b67] [] _
      refine XS.iconst X71.here hx rfl (hb hby at_408) ?_
      show own_S p e below T71 m 409 #[iv i1, .val (.long j2), .second, iv i3, iv i4, iv l2, iv (l2 - b1), iv (2 : Int32), iv l1, iv s1, iv l0, iv s0, iv gv, rv b32, rv b38, iv (((l1 - s1) + (1 : Int32)) + ((l2 - (l2 - b1)) + (1 : Int32))), rv b67] [(.int (1 : Int32))] _
      refine XS.goto X71.here hx rfl (pc0 := 409) (pc' := 413) rfl (hb hby at_409) (by decide) (by decide) ?_
      exact k)
    obtain ⟨fs, hr, hrun, hended, hW, hsame⟩ := X71.leave (v := some (.int (nar .boolean (1 : Int32)))) (fun h => by rw [Bd.returns] at h; cases h)
    refine ⟨_, _, pre73 _ ?_, hrun, hended, _, _, rfl, ?_, ⟨_, rfl⟩, hW, hsame.mono (by decide) (by decide)⟩
    · show own_S p e below T71 m 413 #[iv i1, .val (.long j2), .second, iv i3, iv i4, iv l2, iv (l2 - b1), iv (2 : Int32), iv l1, iv s1, iv l0, iv s0, iv gv, rv b32, rv b38, iv (((l1 - s1) + (1 : Int32)) + ((l2 - (l2 - b1)) + (1 : Int32))), rv b67] [(.int (1 : Int32))] _
      exact retN X71 hx (t := .boolean) Bd.returns (by simp) (hb hby at_413) hr
    · show Q0 Z i1 j2 i3 i4 h0 n0 _ T71.heap _
      rw [e71]
      exact ⟨rfl, N71⟩
  ·  -- case
    have Vn_74 := (((((V36.ext E38).other W39 ne_b32_b38).other W40 ne_b32_b38).other W41 ne_b32_b38).other W42 ne_b32_b38)
    obtain ⟨cl75, Ar75, q75, S75, M75, H75, G75⟩ := Vn_74
    have hin75 : ¬ ((0 : Int32) < 0 ∨ cl75.slots.size ≤ ((0 : Int32)).toNatClampNeg) := inb_of S75 ⟨by decide, by decide⟩
    obtain ⟨T75, h75, X75, e75, W75, st75⟩ := stC X42 hx hZ e42 Ar75 (j := (0 : Int32)) hin75 (g := (mkF m 319 #[iv i1, .val (.long j2), .second, iv i3, iv i4, iv l2, iv (l2 - b1), iv (3 : Int32), iv l1, iv s1, iv l0, iv s0, iv gv, rv b32, rv b38, .unset, .unset] [(.int (s0.toUInt32.toUInt16.toUInt32.toInt32)), (.int (0 : Int32)), (.ref b32)])) rfl rfl (hb hby at_319)
    have V75 : Arv Z h75 b32 k32 .char (4 : Int32) [(.int (nar .char (s0.toUInt32.toUInt16.toUInt32.toInt32))), (.int (nar .char gv)), (.int (nar .char gv)), (.int (nar .char gv))] (.int (0 : Int32)) := Arv.set Ar75 q75 S75 M75 H75 G75 (fits_nar_char _) W75 0 rfl (Nat.le_of_ble_eq_true rfl)
    have N75 := Fr.snoc X75 N42 g_b32
    have Vn_76 := (V42.other W75 (Ne.symm ne_b32_b38))
    obtain ⟨cl77, Ar77, q77, S77, M77, H77, G77⟩ := Vn_76
    have hin77 : ¬ ((0 : Int32) < 0 ∨ cl77.slots.size ≤ ((0 : Int32)).toNatClampNeg) := inb_of S77 ⟨by decide, by decide⟩
    obtain ⟨T77, h77, X77, e77, W77, st77⟩ := stC X75 hx hZ e75 Ar77 (j := (0 : Int32)) hin77 (g := (mkF m 326 #[iv i1, .val (.long j2), .second, iv i3, iv i4, iv l2, iv (l2 - b1), iv (3 : Int32), iv l1, iv s1, iv l0, iv s0, iv gv, rv b32, rv b38, .unset, .unset] [(.int (l0.toUInt32.toUInt16.toUInt32.toInt32)), (.int (0 : Int32)), (.ref b38)])) rfl rfl (hb hby at_326)
    have V77 : Arv Z h77 b38 k38 .char (4 : Int32) [(.int (nar .char (l0.toUInt32.toUInt16.toUInt32.toInt32))), (.int (nar .char gv)), (.int (nar .char gv)), (.int (nar .char gv))] (.int (0 : Int32)) := Arv.set Ar77 q77 S77 M77 H77 G77 (fits_nar_char _) W77 0 rfl (Nat.le_of_ble_eq_true rfl)
    have N77 := Fr.snoc X77 N75 g_b38
    have Vn_78 := (V75.other W77 ne_b32_b38)
    obtain ⟨cl79, Ar79, q79, S79, M79, H79, G79⟩ := Vn_78
    have hin79 : ¬ ((1 : Int32) < 0 ∨ cl79.slots.size ≤ ((1 : Int32)).toNatClampNeg) := inb_of S79 ⟨by decide, by decide⟩
    obtain ⟨T79, h79, X79, e79, W79, st79⟩ := stC X77 hx hZ e77 Ar79 (j := (1 : Int32)) hin79 (g := (mkF m 333 #[iv i1, .val (.long j2), .second, iv i3, iv i4, iv l2, iv (l2 - b1), iv (3 : Int32), iv l1, iv s1, iv l0, iv s0, iv gv, rv b32, rv b38, .unset, .unset] [(.int (s1.toUInt32.toUInt16.toUInt32.toInt32)), (.int (1 : Int32)), (.ref b32)])) rfl rfl (hb hby at_333)
    have V79 : Arv Z h79 b32 k32 .char (4 : Int32) [(.int (nar .char (s0.toUInt32.toUInt16.toUInt32.toInt32))), (.int (nar .char (s1.toUInt32.toUInt16.toUInt32.toInt32))), (.int (nar .char gv)), (.int (nar .char gv))] (.int (0 : Int32)) := Arv.set Ar79 q79 S79 M79 H79 G79 (fits_nar_char _) W79 1 rfl (Nat.le_of_ble_eq_true rfl)
    have N79 := Fr.snoc X79 N77 g_b32
    have Vn_80 := (V77.other W79 (Ne.symm ne_b32_b38))
    obtain ⟨cl81, Ar81, q81, S81, M81, H81, G81⟩ := Vn_80
    have hin81 : ¬ ((1 : Int32) < 0 ∨ cl81.slots.size ≤ ((1 : Int32)).toNatClampNeg) := inb_of S81 ⟨by decide, by decide⟩
    obtain ⟨T81, h81, X81, e81, W81, st81⟩ := stC X79 hx hZ e79 Ar81 (j := (1 : Int32)) hin81 (g := (mkF m 340 #[iv i1, .val (.long j2), .second, iv i3, iv i4, iv l2, iv (l2 - b1), iv (3 : Int32), iv l1, iv s1, iv l0, iv s0, iv gv, rv b32, rv b38, .unset, .unset] [(.int (l1.toUInt32.toUInt16.toUInt32.toInt32)), (.int (1 : Int32)), (.ref b38)])) rfl rfl (hb hby at_340)
    have V81 : Arv Z h81 b38 k38 .char (4 : Int32) [(.int (nar .char (l0.toUInt32.toUInt16.toUInt32.toInt32))), (.int (nar .char (l1.toUInt32.toUInt16.toUInt32.toInt32))), (.int (nar .char gv)), (.int (nar .char gv))] (.int (0 : Int32)) := Arv.set Ar81 q81 S81 M81 H81 G81 (fits_nar_char _) W81 1 rfl (Nat.le_of_ble_eq_true rfl)
    have N81 := Fr.snoc X81 N79 g_b38
    have Vn_82 := (V79.other W81 ne_b32_b38)
    obtain ⟨cl83, Ar83, q83, S83, M83, H83, G83⟩ := Vn_82
    have hin83 : ¬ ((2 : Int32) < 0 ∨ cl83.slots.size ≤ ((2 : Int32)).toNatClampNeg) := inb_of S83 ⟨by decide, by decide⟩
    obtain ⟨T83, h83, X83, e83, W83, st83⟩ := stC X81 hx hZ e81 Ar83 (j := (2 : Int32)) hin83 (g := (mkF m 347 #[iv i1, .val (.long j2), .second, iv i3, iv i4, iv l2, iv (l2 - b1), iv (3 : Int32), iv l1, iv s1, iv l0, iv s0, iv gv, rv b32, rv b38, .unset, .unset] [(.int ((l2 - b1).toUInt32.toUInt16.toUInt32.toInt32)), (.int (2 : Int32)), (.ref b32)])) rfl rfl (hb hby at_347)
    have V83 : Arv Z h83 b32 k32 .char (4 : Int32) [(.int (nar .char (s0.toUInt32.toUInt16.toUInt32.toInt32))), (.int (nar .char (s1.toUInt32.toUInt16.toUInt32.toInt32))), (.int (nar .char ((l2 - b1).toUInt32.toUInt16.toUInt32.toInt32))), (.int (nar .char gv))] (.int (0 : Int32)) := Arv.set Ar83 q83 S83 M83 H83 G83 (fits_nar_char _) W83 2 rfl (Nat.le_of_ble_eq_true rfl)
    have N83 := Fr.snoc X83 N81 g_b32
    have Vn_84 := (V81.other W83 (Ne.symm ne_b32_b38))
    obtain ⟨cl85, Ar85, q85, S85, M85, H85, G85⟩ := Vn_84
    have hin85 : ¬ ((2 : Int32) < 0 ∨ cl85.slots.size ≤ ((2 : Int32)).toNatClampNeg) := inb_of S85 ⟨by decide, by decide⟩
    obtain ⟨T85, h85, X85, e85, W85, st85⟩ := stC X83 hx hZ e83 Ar85 (j := (2 : Int32)) hin85 (g := (mkF m 354 #[iv i1, .val (.long j2), .second, iv i3, iv i4, iv l2, iv (l2 - b1), iv (3 : Int32), iv l1, iv s1, iv l0, iv s0, iv gv, rv b32, rv b38, .unset, .unset] [(.int (l2.toUInt32.toUInt16.toUInt32.toInt32)), (.int (2 : Int32)), (.ref b38)])) rfl rfl (hb hby at_354)
    have V85 : Arv Z h85 b38 k38 .char (4 : Int32) [(.int (nar .char (l0.toUInt32.toUInt16.toUInt32.toInt32))), (.int (nar .char (l1.toUInt32.toUInt16.toUInt32.toInt32))), (.int (nar .char (l2.toUInt32.toUInt16.toUInt32.toInt32))), (.int (nar .char gv))] (.int (0 : Int32)) := Arv.set Ar85 q85 S85 M85 H85 G85 (fits_nar_char _) W85 2 rfl (Nat.le_of_ble_eq_true rfl)
    have N85 := Fr.snoc X85 N83 g_b38
    have Zs86 : n0 ≤ h85.size := (Nat.le_trans (Nat.le_trans (Nat.le_trans (Nat.le_trans (Nat.le_trans (Nat.le_trans (Nat.le_trans (Nat.le_trans (Nat.le_trans (Nat.le_trans (Nat.le_trans Zs37 E38.1) (Keep.of_wr W39).1) (Keep.of_wr W40).1) (Keep.of_wr W41).1) (Keep.of_wr W42).1) (Keep.of_wr W75).1) (Keep.of_wr W77).1) (Keep.of_wr W79).1) (Keep.of_wr W81).1) (Keep.of_wr W83).1) (Keep.of_wr W85).1)
    have Vn_87 := (V83.other W85 ne_b32_b38)
    obtain ⟨T88, h88, X88, e88, E88, A88, D88, -, st88⟩ := newO X85 hx hZ hown (hw _ (List.mem_of_getElem? (i := 8) rfl)) (hw _ (List.mem_of_getElem? (i := 9) rfl)) (hw _ (List.mem_of_getElem? (i := 10) rfl)) e85 (g := (mkF m 380 #[iv i1, .val (.long j2), .second, iv i3, iv i4, iv l2, iv (l2 - b1), iv (3 : Int32), iv l1, iv s1, iv l0, iv s0, iv gv, rv b32, rv b38, iv ((((l0 - s0) + (1 : Int32)) + ((l1 - s1) + (1 : Int32))) + ((l2 - (l2 - b1)) + (1 : Int32))), .unset] [])) rfl (hb hby at_380) (by decide) (by decide)
    obtain ⟨b88, g88⟩ : ∃ z, z = h85.size := ⟨_, rfl⟩
    rw [← g88] at A88 D88 st88
    have g_b88 : n0 ≤ b88 := Nat.le_trans Zs86 (Nat.le_of_eq g88.symm)
    have sz_b88 : h0.size ≤ b88 := Nat.le_trans ((((((((((((((((((Keep.refl h0 []).ext E32).wr W33 (Or.inr sz_b32)).wr W34 (Or.inr sz_b32)).wr W35 (Or.inr sz_b32)).wr W36 (Or.inr sz_b32)).ext E38).wr W39 (Or.inr sz_b38)).wr W40 (Or.inr sz_b38)).wr W41 (Or.inr sz_b38)).wr W42 (Or.inr sz_b38)).wr W75 (Or.inr sz_b32)).wr W77 (Or.inr sz_b38)).wr W79 (Or.inr sz_b32)).wr W81 (Or.inr sz_b38)).wr W83 (Or.inr sz_b32)).wr W85 (Or.inr sz_b38))).1 (Nat.le_of_eq g88.symm)
    have ne_b32_b88 : b32 ≠ b88 := Nat.ne_of_lt (Nat.lt_of_lt_of_le Vn_87.lt (Nat.le_of_eq g88.symm))
    have ne_b38_b88 : b38 ≠ b88 := Nat.ne_of_lt (Nat.lt_of_lt_of_le V85.lt (Nat.le_of_eq g88.symm))
    have F_starts_b88 : Fld Z h88 b88 "com/example/bitstrata/bitstrata/RunContainer" "starts" "[C" .null := D88 (Or.inl (hw _ (List.mem_of_getElem? (i := 18) rfl))) (ty := (.array .char)) (by decide)
    have F_lasts_b88 : Fld Z h88 b88 "com/example/bitstrata/bitstrata/RunContainer" "lasts" "[C" .null := D88 (Or.inl (hw _ (List.mem_of_getElem? (i := 20) rfl))) (ty := (.array .char)) (by decide)
    have F_runCount_b88 : Fld Z h88 b88 "com/example/bitstrata/bitstrata/RunContainer" "runCount" "I" (.int (0 : Int32)) := D88 (Or.inl (hw _ (List.mem_of_getElem? (i := 22) rfl))) (ty := .int) (by decide)
    have F_cardinality_b88 : Fld Z h88 b88 "com/example/bitstrata/bitstrata/RunContainer" "cardinality" "I" (.int (0 : Int32)) := D88 (Or.inl (hw _ (List.mem_of_getElem? (i := 24) rfl))) (ty := .int) (by decide)
    have Zs90 : n0 ≤ h88.size := (Nat.le_trans Zs86 E88.1)
    obtain ⟨_, _, ⟨T89, L89, k89, n89⟩, -, X89, ⟨Lc89, hQ89, l89, y89, z89⟩, st89⟩ := X88.specialBack hx (y := (⟨"com/example/bitstrata/bitstrata/RunContainer", "<init>", "([C[CII)V"⟩ : MethodName)) rfl hown (mvT hZ (hw _ (List.mem_of_getElem? (i := 11) rfl))) (mvT hZ (hw _ (List.mem_of_getElem? (i := 12) rfl))) (mvT hZ (hw _ (List.mem_of_getElem? (i := 13) rfl))) (by decide) (backOf (W := 1) (rm2 l Z a0 hw [] b88 b32 b38 (3 : Int32) ((((l0 - s0) + (1 : Int32)) + ((l1 - s1) + (1 : Int32))) + ((l2 - (l2 - b1)) + (1 : Int32))) h88 n0 Zs90 A88 g_b88 F_starts_b88 F_lasts_b88 F_runCount_b88 F_cardinality_b88) hZ (hw _ (List.mem_of_getElem? (i := 13) rfl)) (hw _ (List.mem_of_getElem? (i := 10) rfl)) (by decide) (by decide)) (g := (mkF m 392 #[iv i1, .val (.long j2), .second, iv i3, iv i4, iv l2, iv (l2 - b1), iv (3 : Int32), iv l1, iv s1, iv l0, iv s0, iv gv, rv b32, rv b38, iv ((((l0 - s0) + (1 : Int32)) + ((l1 - s1) + (1 : Int32))) + ((l2 - (l2 - b1)) + (1 : Int32))), .unset] [(.int ((((l0 - s0) + (1 : Int32)) + ((l1 - s1) + (1 : Int32))) + ((l2 - (l2 - b1)) + (1 : Int32)))), (.int (3 : Int32)), (.ref b38), (.ref b32), (.ref b88), (.ref b88)])) rfl (by rw [hml]; rfl) (Steps.refl _) (a := b88) (argsL := [(.ref b32), (.ref b38), (.int (3 : Int32)), (.int ((((l0 - s0) + (1 : Int32)) + ((l1 - s1) + (1 : Int32))) + ((l2 - (l2 - b1)) + (1 : Int32))))]) (rest := [(.ref b88)]) (lenOf pd_1 rfl) rfl (by show 2 * 0 + _ ≤ _; exact Nat.le_of_eq rfl) (hb hby at_392) (fun _ _ => ⟨rfl, e88, (by decide : 3 + 0 ≤ _), (by decide : 12 + 0 ≤ _)⟩)
    dsimp only [Pt.U, Pt.locs, Pt.cells, Pt.slots] at X89 l89 y89 z89 st89 hQ89
    subst l89 y89 z89
    obtain ⟨rfl, N89q, K89, E89c, Fa89, Fb89, Fc89, Fd89⟩ := hQ89
    have N89 := Fr.app N85 N89q
    have Vn_91 := ((V85.ext E88).keep K89 (ninS ne_b38_b88 nin0))
    have Zs93 : n0 ≤ T89.heap.size := (Nat.le_trans Zs90 K89.1)
    obtain ⟨cq92, kq92, q92a, q92b, q92c⟩ := isOf hZ rfl E89c
    obtain ⟨_, _, ⟨T92, L92, k92, n92⟩, -, X92, ⟨Lc92, hQ92, l92, y92, z92⟩, st92⟩ := X89.virtualBack hx (y := (⟨"com/example/bitstrata/bitstrata/RunContainer", "last", "()C"⟩ : MethodName)) (z := (⟨"com/example/bitstrata/bitstrata/RunContainer", "last", "()C"⟩ : MethodName)) hown (mvT hZ (hw _ (List.mem_of_getElem? (i := 25) rfl))) (mvT hZ (hw _ (List.mem_of_getElem? (i := 26) rfl))) (notFace_of_selects (args := #[]) (mvT hZ (hw _ (List.mem_of_getElem? (i := 28) rfl)))) (mvT hZ (hw _ (List.mem_of_getElem? (i := 28) rfl))) (mvT hZ (hw _ (List.mem_of_getElem? (i := 27) rfl))) (by decide) (backOf (W := 0) (rm4 l Z a0 hw [] b88 b38 (3 : Int32) k38 [(.int (nar .char (l0.toUInt32.toUInt16.toUInt32.toInt32))), (.int (nar .char (l1.toUInt32.toUInt16.toUInt32.toInt32))), (.int (nar .char (l2.toUInt32.toUInt16.toUInt32.toInt32))), (.int (nar .char gv))] (nar .char (l2.toUInt32.toUInt16.toUInt32.toInt32)) T89.heap n0 Zs93 Fb89 Fc89 Vn_91 ⟨by decide, by decide⟩ rfl) hZ (hw _ (List.mem_of_getElem? (i := 29) rfl)) (hw _ (List.mem_of_getElem? (i := 10) rfl)) (by decide) (by decide)) q92a q92c (g := (mkF m 399 #[iv i1, .val (.long j2), .second, iv i3, iv i4, iv l2, iv (l2 - b1), iv (3 : Int32), iv l1, iv s1, iv l0, iv s0, iv gv, rv b32, rv b38, iv ((((l0 - s0) + (1 : Int32)) + ((l1 - s1) + (1 : Int32))) + ((l2 - (l2 - b1)) + (1 : Int32))), rv b88] [(.ref b88)])) rfl (by rw [hml]; rfl) (Steps.refl _) (argsL := []) (rest := []) (lenOf pd_2 rfl) rfl (by show 2 * 0 + _ ≤ _; exact Nat.le_of_eq rfl) (hb hby at_399) (fun _ _ => ⟨rfl, rfl, (by decide : 3 + 0 ≤ _), (by decide : 12 + 0 ≤ _)⟩)
    dsimp only [Pt.U, Pt.locs, Pt.cells, Pt.slots] at X92 l92 y92 z92 st92 hQ92
    subst l92 y92 z92
    obtain ⟨rfl, N92q, e92q⟩ := hQ92
    have N92 := Fr.app N89 N92q
    have e92 : T92.heap = T89.heap := e92q
    have pre94 : ∀ t, own_S p e below T92 m 413 #[iv i1, .val (.long j2), .second, iv i3, iv i4, iv l2, iv (l2 - b1), iv (3 : Int32), iv l1, iv s1, iv l0, iv s0, iv gv, rv b32, rv b38, iv ((((l0 - s0) + (1 : Int32)) + ((l1 - s1) + (1 : Int32))) + ((l2 - (l2 - b1)) + (1 : Int32))), rv b88] [(.int (1 : Int32))] t → Steps p.tables e below (s₁.setTop (entryFrame m #[(.int i1), (.long j2), (.int i3), (.int i4)] maxLocals)) t := fun t k => pre43 t (by
      show own_S p e below T42 m 227 #[iv i1, .val (.long j2), .second, iv i3, iv i4, iv l2, iv (l2 - b1), iv (3 : Int32), iv l1, iv s1, iv l0, iv s0, iv gv, rv b32, rv b38, .unset, .unset] [] _
      refine XS.iload X42.here hx rfl (hb hby at_227) rfl ?_
      show own_S p e below T42 m 229 #[iv i1, .val (.long j2), .second, iv i3, iv i4, iv l2, iv (l2 - b1), iv (3 : Int32), iv l1, iv s1, iv l0, iv s0, iv gv, rv b32, rv b38, .unset, .unset] [(.int (3 : Int32))] _
      refine XS.iconst X42.here hx rfl (hb hby at_229) ?_
      show own_S p e below T42 m 230 #[iv i1, .val (.long j2), .second, iv i3, iv i4, iv l2, iv (l2 - b1), iv (3 : Int32), iv l1, iv s1, iv l0, iv s0, iv gv, rv b32, rv b38, .unset, .unset] [(.int (1 : Int32)), (.int (3 : Int32))] _
      refine XS.icmpYes X42.here hx rfl (pc0 := 230) (pc' := 259) rfl (hb hby at_230) rfl (feq (by decide : ¬ ((3 : Int32) = (1 : Int32)))).2 (by decide) (by decide) ?_
      show own_S p e below T42 m 259 #[iv i1, .val (.long j2), .second, iv i3, iv i4, iv l2, iv (l2 - b1), iv (3 : Int32), iv l1, iv s1, iv l0, iv s0, iv gv, rv b32, rv b38, .unset, .unset] [] _
      refine XS.iload X42.here hx rfl (hb hby at_259) rfl ?_
      show own_S p e below T42 m 261 #[iv i1, .val (.long j2), .second, iv i3, iv i4, iv l2, iv (l2 - b1), iv (3 : Int32), iv l1, iv s1, iv l0, iv s0, iv gv, rv b32, rv b38, .unset, .unset] [(.int (3 : Int32))] _
      refine XS.iconst X42.here hx rfl (hb hby at_261) ?_
      show own_S p e below T42 m 262 #[iv i1, .val (.long j2), .second, iv i3, iv i4, iv l2, iv (l2 - b1), iv (3 : Int32), iv l1, iv s1, iv l0, iv s0, iv gv, rv b32, rv b38, .unset, .unset] [(.int (2 : Int32)), (.int (3 : Int32))] _
      refine XS.icmpYes X42.here hx rfl (pc0 := 262) (pc' := 313) rfl (hb hby at_262) rfl (feq (by decide : ¬ ((3 : Int32) = (2 : Int32)))).2 (by decide) (by decide) ?_
      show own_S p e below T42 m 313 #[iv i1, .val (.long j2), .second, iv i3, iv i4, iv l2, iv (l2 - b1), iv (3 : Int32), iv l1, iv s1, iv l0, iv s0, iv gv, rv b32, rv b38, .unset, .unset] [] _
      refine XS.aload X42.here hx rfl (hb hby at_313) rfl rfl ?_
      show own_S p e below T42 m 315 #[iv i1, .val (.long j2), .second, iv i3, iv i4, iv l2, iv (l2 - b1), iv (3 : Int32), iv l1, iv s1, iv l0, iv s0, iv gv, rv b32, rv b38, .unset, .unset] [(.ref b32)] _
      refine XS.iconst X42.here hx rfl (hb hby at_315) ?_
      show own_S p e below T42 m 316 #[iv i1, .val (.long j2), .second, iv i3, iv i4, iv l2, iv (l2 - b1), iv (3 : Int32), iv l1, iv s1, iv l0, iv s0, iv gv, rv b32, rv b38, .unset, .unset] [(.int (0 : Int32)), (.ref b32)] _
      refine XS.iload X42.here hx rfl (hb hby at_316) rfl ?_
      show own_S p e below T42 m 318 #[iv i1, .val (.long j2), .second, iv i3, iv i4, iv l2, iv (l2 - b1), iv (3 : Int32), iv l1, iv s1, iv l0, iv s0, iv gv, rv b32, rv b38, .unset, .unset] [(.int s0), (.int (0 : Int32)), (.ref b32)] _
      refine XS.i2c X42.here hx rfl (hb hby at_318) rfl ?_
      show own_S p e below T42 m 319 #[iv i1, .val (.long j2), .second, iv i3, iv i4, iv l2, iv (l2 - b1), iv (3 : Int32), iv l1, iv s1, iv l0, iv s0, iv gv, rv b32, rv b38, .unset, .unset] [(.int (s0.toUInt32.toUInt16.toUInt32.toInt32)), (.int (0 : Int32)), (.ref b32)] _
      refine st75 _ ?_
      show own_S p e below T75 m 320 #[iv i1, .val (.long j2), .second, iv i3, iv i4, iv l2, iv (l2 - b1), iv (3 : Int32), iv l1, iv s1, iv l0, iv s0, iv gv, rv b32, rv b38, .unset, .unset] [] _
      refine XS.aload X75.here hx rfl (hb hby at_320) rfl rfl ?_
      show own_S p e below T75 m 322 #[iv i1, .val (.long j2), .second, iv i3, iv i4, iv l2, iv (l2 - b1), iv (3 : Int32), iv l1, iv s1, iv l0, iv s0, iv gv, rv b32, rv b38, .unset, .unset] [(.ref b38)] _
      refine XS.iconst X75.here hx rfl (hb hby at_322) ?_
      show own_S p e below T75 m 323 #[iv i1, .val (.long j2), .second, iv i3, iv i4, iv l2, iv (l2 - b1), iv (3 : Int32), iv l1, iv s1, iv l0, iv s0, iv gv, rv b32, rv b38, .unset, .unset] [(.int (0 : Int32)), (.ref b38)] _
      refine XS.iload X75.here hx rfl (hb hby at_323) rfl ?_
      show own_S p e below T75 m 325 #[iv i1, .val (.long j2), .second, iv i3, iv i4, iv l2, iv (l2 - b1), iv (3 : Int32), iv l1, iv s1, iv l0, iv s0, iv gv, rv b32, rv b38, .unset, .unset] [(.int l0), (.int (0 : Int32)), (.ref b38)] _
      refine XS.i2c X75.here hx rfl (hb hby at_325) rfl ?_
      show own_S p e below T75 m 326 #[iv i1, .val (.long j2), .second, iv i3, iv i4, iv l2, iv (l2 - b1), iv (3 : Int32), iv l1, iv s1, iv l0, iv s0, iv gv, rv b32, rv b38, .unset, .unset] [(.int (l0.toUInt32.toUInt16.toUInt32.toInt32)), (.int (0 : Int32)), (.ref b38)] _
      refine st77 _ ?_
      show own_S p e below T77 m 327 #[iv i1, .val (.long j2), .second, iv i3, iv i4, iv l2, iv (l2 - b1), iv (3 : Int32), iv l1, iv s1, iv l0, iv s0, iv gv, rv b32, rv b38, .unset, .unset] [] _
      refine XS.aload X77.here hx rfl (hb hby at_327) rfl rfl ?_
      show own_S p e below T77 m 329 #[iv i1, .val (.long j2), .second, iv i3, iv i4, iv l2, iv (l2 - b1), iv (3 : Int32), iv l1, iv s1, iv l0, iv s0, iv gv, rv b32, rv b38, .unset, .unset] [(.ref b32)] _
      refine XS.iconst X77.here hx rfl (hb hby at_329) ?_
      show own_S p e below T77 m 330 #[iv i1, .val (.long j2), .second, iv i3, iv i4, iv l2, iv (l2 - b1), iv (3 : Int32), iv l1, iv s1, iv l0, iv s0, iv gv, rv b32, rv b38, .unset, .unset] [(.int (1 : Int32)), (.ref b32)] _
      refine XS.iload X77.here hx rfl (hb hby at_330) rfl ?_
      show own_S p e below T77 m 332 #[iv i1, .val (.long j2), .second, iv i3, iv i4, iv l2, iv (l2 - b1), iv (3 : Int32), iv l1, iv s1, iv l0, iv s0, iv gv, rv b32, rv b38, .unset, .unset] [(.int s1), (.int (1 : Int32)), (.ref b32)] _
      refine XS.i2c X77.here hx rfl (hb hby at_332) rfl ?_
      show own_S p e below T77 m 333 #[iv i1, .val (.long j2), .second, iv i3, iv i4, iv l2, iv (l2 - b1), iv (3 : Int32), iv l1, iv s1, iv l0, iv s0, iv gv, rv b32, rv b38, .unset, .unset] [(.int (s1.toUInt32.toUInt16.toUInt32.toInt32)), (.int (1 : Int32)), (.ref b32)] _
      refine st79 _ ?_
      show own_S p e below T79 m 334 #[iv i1, .val (.long j2), .second, iv i3, iv i4, iv l2, iv (l2 - b1), iv (3 : Int32), iv l1, iv s1, iv l0, iv s0, iv gv, rv b32, rv b38, .unset, .unset] [] _
      refine XS.aload X79.here hx rfl (hb hby at_334) rfl rfl ?_
      show own_S p e below T79 m 336 #[iv i1, .val (.long j2), .second, iv i3, iv i4, iv l2, iv (l2 - b1), iv (3 : Int32), iv l1, iv s1, iv l0, iv s0, iv gv, rv b32, rv b38, .unset, .unset] [(.ref b38)] _
      refine XS.iconst X79.here hx rfl (hb hby at_336) ?_
      show own_S p e below T79 m 337 #[iv i1, .val (.long j2), .second, iv i3, iv i4, iv l2, iv (l2 - b1), iv (3 : Int32), iv l1, iv s1, iv l0, iv s0, iv gv, rv b32, rv b38, .unset, .unset] [(.int (1 : Int32)), (.ref b38)] _
      refine XS.iload X79.here hx rfl (hb hby at_337) rfl ?_
      show own_S p e below T79 m 339 #[iv i1, .val (.long j2), .second, iv i3, iv i4, iv l2, iv (l2 - b1), iv (3 : Int32), iv l1, iv s1, iv l0, iv s0, iv gv, rv b32, rv b38, .unset, .unset] [(.int l1), (.int (1 : Int32)), (.ref b38)] _
      refine XS.i2c X79.here hx rfl (hb hby at_339) rfl ?_
      show own_S p e below T79 m 340 #[iv i1, .val (.long j2), .second, iv i3, iv i4, iv l2, iv (l2 - b1), iv (3 : Int32), iv l1, iv s1, iv l0, iv s0, iv gv, rv b32, rv b38, .unset, .unset] [(.int (l1.toUInt32.toUInt16.toUInt32.toInt32)), (.int (1 : Int32)), (.ref b38)] _
      refine st81 _ ?_
      show own_S p e below T81 m 341 #[iv i1, .val (.long j2), .second, iv i3, iv i4, iv l2, iv (l2 - b1), iv (3 : Int32), iv l1, iv s1, iv l0, iv s0, iv gv, rv b32, rv b38, .unset, .unset] [] _
      refine XS.aload X81.here hx rfl (hb hby at_341) rfl rfl ?_
      show own_S p e below T81 m 343 #[iv i1, .val (.long j2), .second, iv i3, iv i4, iv l2, iv (l2 - b1), iv (3 : Int32), iv l1, iv s1, iv l0, iv s0, iv gv, rv b32, rv b38, .unset, .unset] [(.ref b32)] _
      refine XS.iconst X81.here hx rfl (hb hby at_343) ?_
      show own_S p e below T81 m 344 #[iv i1, .val (.long j2), .second, iv i3, iv i4, iv l2, iv (l2 - b1), iv (3 : Int32), iv l1, iv s1, iv l0, iv s0, iv gv, rv b32, rv b38, .unset, .unset] [(.int (2 : Int32)), (.ref b32)] _
      refine XS.iload X81.here hx rfl (hb hby at_344) rfl ?_
      show own_S p e below T81 m 346 #[iv i1, .val (.long j2), .second, iv i3, iv i4, iv l2, iv (l2 - b1), iv (3 : Int32), iv l1, iv s1, iv l0, iv s0, iv gv, rv b32, rv b38, .unset, .unset] [(.int (l2 - b1)), (.int (2 : Int32)), (.ref b32)] _
      refine XS.i2c X81.here hx rfl (hb hby at_346) rfl ?_
      show own_S p e below T81 m 347 #[iv i1, .val (.long j2), .second, iv i3, iv i4, iv l2, iv (l2 - b1), iv (3 : Int32), iv l1, iv s1, iv l0, iv s0, iv gv, rv b32, rv b38, .unset, .unset] [(.int ((l2 - b1).toUInt32.toUInt16.toUInt32.toInt32)), (.int (2 : Int32)), (.ref b32)] _
      refine st83 _ ?_
      show own_S p e below T83 m 348 #[iv i1, .val (.long j2), .second, iv i3, iv i4, iv l2, iv (l2 - b1), iv (3 : Int32), iv l1, iv s1, iv l0, iv s0, iv gv, rv b32, rv b38, .unset, .unset] [] _
      refine XS.aload X83.here hx rfl (hb hby at_348) rfl rfl ?_
      show own_S p e below T83 m 350 #[iv i1, .val (.long j2), .second, iv i3, iv i4, iv l2, iv (l2 - b1), iv (3 : Int32), iv l1, iv s1, iv l0, iv s0, iv gv, rv b32, rv b38, .unset, .unset] [(.ref b38)] _
      refine XS.iconst X83.here hx rfl (hb hby at_350) ?_
      show own_S p e below T83 m 351 #[iv i1, .val (.long j2), .second, iv i3, iv i4, iv l2, iv (l2 - b1), iv (3 : Int32), iv l1, iv s1, iv l0, iv s0, iv gv, rv b32, rv b38, .unset, .unset] [(.int (2 : Int32)), (.ref b38)] _
      refine XS.iload X83.here hx rfl (hb hby at_351) rfl ?_
      show own_S p e below T83 m 353 #[iv i1, .val (.long j2), .second, iv i3, iv i4, iv l2, iv (l2 - b1), iv (3 : Int32), iv l1, iv s1, iv l0, iv s0, iv gv, rv b32, rv b38, .unset, .unset] [(.int l2), (.int (2 : Int32)), (.ref b38)] _
      refine XS.i2c X83.here hx rfl (hb hby at_353) rfl ?_
      show own_S p e below T83 m 354 #[iv i1, .val (.long j2), .second, iv i3, iv i4, iv l2, iv (l2 - b1), iv (3 : Int32), iv l1, iv s1, iv l0, iv s0, iv gv, rv b32, rv b38, .unset, .unset] [(.int (l2.toUInt32.toUInt16.toUInt32.toInt32)), (.int (2 : Int32)), (.ref b38)] _
      refine st85 _ ?_
      show own_S p e below T85 m 355 #[iv i1, .val (.long j2), .second, iv i3, iv i4, iv l2, iv (l2 - b1), iv (3 : Int32), iv l1, iv s1, iv l0, iv s0, iv gv, rv b32, rv b38, .unset, .unset] [] _
      refine XS.iload X85.here hx rfl (hb hby at_355) rfl ?_
      show own_S p e below T85 m 357 #[iv i1, .val (.long j2), .second, iv i3, iv i4, iv l2, iv (l2 - b1), iv (3 : Int32), iv l1, iv s1, iv l0, iv s0, iv gv, rv b32, rv b38, .unset, .unset] [(.int l0)] _
      refine XS.iload X85.here hx rfl (hb hby at_357) rfl ?_
      show own_S p e below T85 m 359 #[iv i1, .val (.long j2), .second, iv i3, iv i4, iv l2, iv (l2 - b1), iv (3 : Int32), iv l1, iv s1, iv l0, iv s0, iv gv, rv b32, rv b38, .unset, .unset] [(.int s0), (.int l0)] _
      refine XS.isub X85.here hx rfl (hb hby at_359) rfl ?_
      show own_S p e below T85 m 360 #[iv i1, .val (.long j2), .second, iv i3, iv i4, iv l2, iv (l2 - b1), iv (3 : Int32), iv l1, iv s1, iv l0, iv s0, iv gv, rv b32, rv b38, .unset, .unset] [(.int (l0 - s0))] _
      refine XS.iconst X85.here hx rfl (hb hby at_360) ?_
      show own_S p e below T85 m 361 #[iv i1, .val (.long j2), .second, iv i3, iv i4, iv l2, iv (l2 - b1), iv (3 : Int32), iv l1, iv s1, iv l0, iv s0, iv gv, rv b32, rv b38, .unset, .unset] [(.int (1 : Int32)), (.int (l0 - s0))] _
      refine XS.iadd X85.here hx rfl (hb hby at_361) rfl ?_
      show own_S p e below T85 m 362 #[iv i1, .val (.long j2), .second, iv i3, iv i4, iv l2, iv (l2 - b1), iv (3 : Int32), iv l1, iv s1, iv l0, iv s0, iv gv, rv b32, rv b38, .unset, .unset] [(.int ((l0 - s0) + (1 : Int32)))] _
      refine XS.iload X85.here hx rfl (hb hby at_362) rfl ?_
      show own_S p e below T85 m 364 #[iv i1, .val (.long j2), .second, iv i3, iv i4, iv l2, iv (l2 - b1), iv (3 : Int32), iv l1, iv s1, iv l0, iv s0, iv gv, rv b32, rv b38, .unset, .unset] [(.int l1), (.int ((l0 - s0) + (1 : Int32)))] _
      refine XS.iload X85.here hx rfl (hb hby at_364) rfl ?_
      show own_S p e below T85 m 366 #[iv i1, .val (.long j2), .second, iv i3, iv i4, iv l2, iv (l2 - b1), iv (3 : Int32), iv l1, iv s1, iv l0, iv s0, iv gv, rv b32, rv b38, .unset, .unset] [(.int s1), (.int l1), (.int ((l0 - s0) + (1 : Int32)))] _
      refine XS.isub X85.here hx rfl (hb hby at_366) rfl ?_
      show own_S p e below T85 m 367 #[iv i1, .val (.long j2), .second, iv i3, iv i4, iv l2, iv (l2 - b1), iv (3 : Int32), iv l1, iv s1, iv l0, iv s0, iv gv, rv b32, rv b38, .unset, .unset] [(.int (l1 - s1)), (.int ((l0 - s0) + (1 : Int32)))] _
      refine XS.iconst X85.here hx rfl (hb hby at_367) ?_
      show own_S p e below T85 m 368 #[iv i1, .val (.long j2), .second, iv i3, iv i4, iv l2, iv (l2 - b1), iv (3 : Int32), iv l1, iv s1, iv l0, iv s0, iv gv, rv b32, rv b38, .unset, .unset] [(.int (1 : Int32)), (.int (l1 - s1)), (.int ((l0 - s0) + (1 : Int32)))] _
      refine XS.iadd X85.here hx rfl (hb hby at_368) rfl ?_
      show own_S p e below T85 m 369 #[iv i1, .val (.long j2), .second, iv i3, iv i4, iv l2, iv (l2 - b1), iv (3 : Int32), iv l1, iv s1, iv l0, iv s0, iv gv, rv b32, rv b38, .unset, .unset] [(.int ((l1 - s1) + (1 : Int32))), (.int ((l0 - s0) + (1 : Int32)))] _
      refine XS.iadd X85.here hx rfl (hb hby at_369) rfl ?_
      show own_S p e below T85 m 370 #[iv i1, .val (.long j2), .second, iv i3, iv i4, iv l2, iv (l2 - b1), iv (3 : Int32), iv l1, iv s1, iv l0, iv s0, iv gv, rv b32, rv b38, .unset, .unset] [(.int (((l0 - s0) + (1 : Int32)) + ((l1 - s1) + (1 : Int32))))] _
      refine XS.iload X85.here hx rfl (hb hby at_370) rfl ?_
      show own_S p e below T85 m 372 #[iv i1, .val (.long j2), .second, iv i3, iv i4, iv l2, iv (l2 - b1), iv (3 : Int32), iv l1, iv s1, iv l0, iv s0, iv gv, rv b32, rv b38, .unset, .unset] [(.int l2), (.int (((l0 - s0) + (1 : Int32)) + ((l1 - s1) + (1 : Int32))))] _
      refine XS.iload X85.here hx rfl (hb hby at_372) rfl ?_
      show own_S p e below T85 m 374 #[iv i1, .val (.long j2), .second, iv i3, iv i4, iv l2, iv (l2 - b1), iv (3 : Int32), iv l1, iv s1, iv l0, iv s0, iv gv, rv b32, rv b38, .unset, .unset] [(.int (l2 - b1)), (.int l2), (.int (((l0 - s0) + (1 : Int32)) + ((l1 - s1) + (1 : Int32))))] _
      refine XS.isub X85.here hx rfl (hb hby at_374) rfl ?_
      show own_S p e below T85 m 375 #[iv i1, .val (.long j2), .second, iv i3, iv i4, iv l2, iv (l2 - b1), iv (3 : Int32), iv l1, iv s1, iv l0, iv s0, iv gv, rv b32, rv b38, .unset, .unset] [(.int (l2 - (l2 - b1))), (.int (((l0 - s0) + (1 : Int32)) + ((l1 - s1) + (1 : Int32))))] _
      refine XS.iconst X85.here hx rfl (hb hby at_375) ?_
      show own_S p e below T85 m 376 #[iv i1, .val (.long j2), .second, iv i3, iv i4, iv l2, iv (l2 - b1), iv (3 : Int32), iv l1, iv s1, iv l0, iv s0, iv gv, rv b32, rv b38, .unset, .unset] [(.int (1 : Int32)), (.int (l2 - (l2 - b1))), (.int (((l0 - s0) + (1 : Int32)) + ((l1 - s1) + (1 : Int32))))] _
      refine XS.iadd X85.here hx rfl (hb hby at_376) rfl ?_
      show own_S p e below T85 m 377 #[iv i1, .val (.long j2), .second, iv i3, iv i4, iv l2, iv (l2 - b1), iv (3 : Int32), iv l1, iv s1, iv l0, iv s0, iv gv, rv b32, rv b38, .unset, .unset] [(.int ((l2 - (l2 - b1)) + (1 : Int32))), (.int (((l0 - s0) + (1 : Int32)) + ((l1 - s1) + (1 : Int32))))] _
      refine XS.iadd X85.here hx rfl (hb hby at_377) rfl ?_
      show own_S p e below T85 m 378 #[iv i1, .val (.long j2), .second, iv i3, iv i4, iv l2, iv (l2 - b1), iv (3 : Int32), iv l1, iv s1, iv l0, iv s0, iv gv, rv b32, rv b38, .unset, .unset] [(.int ((((l0 - s0) + (1 : Int32)) + ((l1 - s1) + (1 : Int32))) + ((l2 - (l2 - b1)) + (1 : Int32))))] _
      refine XS.istore X85.here hx rfl (hb hby at_378) rfl (l' := #[iv i1, .val (.long j2), .second, iv i3, iv i4, iv l2, iv (l2 - b1), iv (3 : Int32), iv l1, iv s1, iv l0, iv s0, iv gv, rv b32, rv b38, iv ((((l0 - s0) + (1 : Int32)) + ((l1 - s1) + (1 : Int32))) + ((l2 - (l2 - b1)) + (1 : Int32))), .unset]) rfl ?_
      show own_S p e below T85 m 380 #[iv i1, .val (.long j2), .second, iv i3, iv i4, iv l2, iv (l2 - b1), iv (3 : Int32), iv l1, iv s1, iv l0, iv s0, iv gv, rv b32, rv b38, iv ((((l0 - s0) + (1 : Int32)) + ((l1 - s1) + (1 : Int32))) + ((l2 - (l2 - b1)) + (1 : Int32))), .unset] [] _
      refine st88 _ ?_
      show own_S p e below T88 m 383 #[iv i1, .val (.long j2), .second, iv i3, iv i4, iv l2, iv (l2 - b1), iv (3 : Int32), iv l1, iv s1, iv l0, iv s0, iv gv, rv b32, rv b38, iv ((((l0 - s0) + (1 : Int32)) + ((l1 - s1) + (1 : Int32))) + ((l2 - (l2 - b1)) + (1 : Int32))), .unset] [(.ref b88)] _
      refine XS.dup X88.here hx rfl (hb hby at_383) rfl rfl ?_
      show own_S p e below T88 m 384 #[iv i1, .val (.long j2), .second, iv i3, iv i4, iv l2, iv (l2 - b1), iv (3 : Int32), iv l1, iv s1, iv l0, iv s0, iv gv, rv b32, rv b38, iv ((((l0 - s0) + (1 : Int32)) + ((l1 - s1) + (1 : Int32))) + ((l2 - (l2 - b1)) + (1 : Int32))), .unset] [(.ref b88), (.ref b88)] _
      refine XS.aload X88.here hx rfl (hb hby at_384) rfl rfl ?_
      show own_S p e below T88 m 386 #[iv i1, .val (.long j2), .second, iv i3, iv i4, iv l2, iv (l2 - b1), iv (3 : Int32), iv l1, iv s1, iv l0, iv s0, iv gv, rv b32, rv b38, iv ((((l0 - s0) + (1 : Int32)) + ((l1 - s1) + (1 : Int32))) + ((l2 - (l2 - b1)) + (1 : Int32))), .unset] [(.ref b32), (.ref b88), (.ref b88)] _
      refine XS.aload X88.here hx rfl (hb hby at_386) rfl rfl ?_
      show own_S p e below T88 m 388 #[iv i1, .val (.long j2), .second, iv i3, iv i4, iv l2, iv (l2 - b1), iv (3 : Int32), iv l1, iv s1, iv l0, iv s0, iv gv, rv b32, rv b38, iv ((((l0 - s0) + (1 : Int32)) + ((l1 - s1) + (1 : Int32))) + ((l2 - (l2 - b1)) + (1 : Int32))), .unset] [(.ref b38), (.ref b32), (.ref b88), (.ref b88)] _
      refine XS.iload X88.here hx rfl (hb hby at_388) rfl ?_
      show own_S p e below T88 m 390 #[iv i1, .val (.long j2), .second, iv i3, iv i4, iv l2, iv (l2 - b1), iv (3 : Int32), iv l1, iv s1, iv l0, iv s0, iv gv, rv b32, rv b38, iv ((((l0 - s0) + (1 : Int32)) + ((l1 - s1) + (1 : Int32))) + ((l2 - (l2 - b1)) + (1 : Int32))), .unset] [(.int (3 : Int32)), (.ref b38), (.ref b32), (.ref b88), (.ref b88)] _
      refine XS.iload X88.here hx rfl (hb hby at_390) rfl ?_
      show own_S p e below T88 m 392 #[iv i1, .val (.long j2), .second, iv i3, iv i4, iv l2, iv (l2 - b1), iv (3 : Int32), iv l1, iv s1, iv l0, iv s0, iv gv, rv b32, rv b38, iv ((((l0 - s0) + (1 : Int32)) + ((l1 - s1) + (1 : Int32))) + ((l2 - (l2 - b1)) + (1 : Int32))), .unset] [(.int ((((l0 - s0) + (1 : Int32)) + ((l1 - s1) + (1 : Int32))) + ((l2 - (l2 - b1)) + (1 : Int32)))), (.int (3 : Int32)), (.ref b38), (.ref b32), (.ref b88), (.ref b88)] _
      refine st89.trans ?_
      show own_S p e below T89 m 395 #[iv i1, .val (.long j2), .second, iv i3, iv i4, iv l2, iv (l2 - b1), iv (3 : Int32), iv l1, iv s1, iv l0, iv s0, iv gv, rv b32, rv b38, iv ((((l0 - s0) + (1 : Int32)) + ((l1 - s1) + (1 : Int32))) + ((l2 - (l2 - b1)) + (1 : Int32))), .unset] [(.ref b88)] _
      refine XS.astore X89.here hx rfl (hb hby at_395) rfl rfl (l' := #[iv i1, .val (.long j2), .second, iv i3, iv i4, iv l2, iv (l2 - b1), iv (3 : Int32), iv l1, iv s1, iv l0, iv s0, iv gv, rv b32, rv b38, iv ((((l0 - s0) + (1 : Int32)) + ((l1 - s1) + (1 : Int32))) + ((l2 - (l2 - b1)) + (1 : Int32))), rv b88]) rfl ?_
      show own_S p e below T89 m 397 #[iv i1, .val (.long j2), .second, iv i3, iv i4, iv l2, iv (l2 - b1), iv (3 : Int32), iv l1, iv s1, iv l0, iv s0, iv gv, rv b32, rv b38, iv ((((l0 - s0) + (1 : Int32)) + ((l1 - s1) + (1 : Int32))) + ((l2 - (l2 - b1)) + (1 : Int32))), rv b88] [] _
      refine XS.aload X89.here hx rfl (hb hby at_397) rfl rfl ?_
      show own_S p e below T89 m 399 #[iv i1, .val (.long j2), .second, iv i3, iv i4, iv l2, iv (l2 - b1), iv (3 : Int32), iv l1, iv s1, iv l0, iv s0, iv gv, rv b32, rv b38, iv ((((l0 - s0) + (1 : Int32)) + ((l1 - s1) + (1 : Int32))) + ((l2 - (l2 - b1)) + (1 : Int32))), rv b88] [(.ref b88)] _
      refine st92.trans ?_
      show own_S p e below T92 m 402 #[iv i1, .val (.long j2), .second, iv i3, iv i4, iv l2, iv (l2 - b1), iv (3 : Int32), iv l1, iv s1, iv l0, iv s0, iv gv, rv b32, rv b38, iv ((((l0 - s0) + (1 : Int32)) + ((l1 - s1) + (1 : Int32))) + ((l2 - (l2 - b1)) + (1 : Int32))), rv b88] [(.int (nar .char (nar .char (l2.toUInt32.toUInt16.toUInt32.toInt32))))] _
      refine XS.iload X92.here hx rfl (hb hby at_402) rfl ?_
      show own_S p e below T92 m 404 #[iv i1, .val (.long j2), .second, iv i3, iv i4, iv l2, iv (l2 - b1), iv (3 : Int32), iv l1, iv s1, iv l0, iv s0, iv gv, rv b32, rv b38, iv ((((l0 - s0) + (1 : Int32)) + ((l1 - s1) + (1 : Int32))) + ((l2 - (l2 - b1)) + (1 : Int32))), rv b88] [(.int l2), (.int (nar .char (nar .char (l2.toUInt32.toUInt16.toUInt32.toInt32))))] _
      refine XS.i2c X92.here hx rfl (hb hby at_404) rfl ?_
      show own_S p e below T92 m 405 #[iv i1, .val (.long j2), .second, iv i3, iv i4, iv l2, iv (l2 - b1), iv (3 : Int32), iv l1, iv s1, iv l0, iv s0, iv gv, rv b32, rv b38, iv ((((l0 - s0) + (1 : Int32)) + ((l1 - s1) + (1 : Int32))) + ((l2 - (l2 - b1)) + (1 : Int32))), rv b88] [(.int (l2.toUInt32.toUInt16.toUInt32.toInt32)), (.int (nar .char (nar .char (l2.toUInt32.toUInt16.toUInt32.toInt32))))] _
      refine XS.icmpNo X92.here hx rfl (hb hby at_405) rfl (teq (by show nar .char (nar .char (nar .char l2)) = nar .char l2; rw [own_nn, own_nn])).2 ?_
      show own_S p e below T92 m 408 #[iv i1, .val (.long j2), .second, iv i3, iv i4, iv l2, iv (l2 - b1), iv (3 : Int32), iv l1, iv s1, iv l0, iv s0, iv gv, rv b32, rv b38, iv ((((l0 - s0) + (1 : Int32)) + ((l1 - s1) + (1 : Int32))) + ((l2 - (l2 - b1)) + (1 : Int32))), rv b88] [] _
      refine XS.iconst X92.here hx rfl (hb hby at_408) ?_
      show own_S p e below T92 m 409 #[iv i1, .val (.long j2), .second, iv i3, iv i4, iv l2, iv (l2 - b1), iv (3 : Int32), iv l1, iv s1, iv l0, iv s0, iv gv, rv b32, rv b38, iv ((((l0 - s0) + (1 : Int32)) + ((l1 - s1) + (1 : Int32))) + ((l2 - (l2 - b1)) + (1 : Int32))), rv b88] [(.int (1 : Int32))] _
      refine XS.goto X92.here hx rfl (pc0 := 409) (pc' := 413) rfl (hb hby at_409) (by decide) (by decide) ?_
      exact k)
    obtain ⟨fs, hr, hrun, hended, hW, hsame⟩ := X92.leave (v := some (.int (nar .boolean (1 : Int32)))) (fun h => by rw [Bd.returns] at h; cases h)
    refine ⟨_, _, pre94 _ ?_, hrun, hended, _, _, rfl, ?_, ⟨_, rfl⟩, hW, hsame.mono (by decide) (by decide)⟩
    · show own_S p e below T92 m 413 #[iv i1, .val (.long j2), .second, iv i3, iv i4, iv l2, iv (l2 - b1), iv (3 : Int32), iv l1, iv s1, iv l0, iv s0, iv gv, rv b32, rv b38, iv ((((l0 - s0) + (1 : Int32)) + ((l1 - s1) + (1 : Int32))) + ((l2 - (l2 - b1)) + (1 : Int32))), rv b88] [(.int (1 : Int32))] _
      exact retN X92 hx (t := .boolean) Bd.returns (by simp) (hb hby at_413) hr
    · show Q0 Z i1 j2 i3 i4 h0 n0 _ T92.heap _
      rw [e92]
      exact ⟨rfl, N92⟩
set_option maxRecDepth 65536 in
set_option maxHeartbeats 40000000 in
theorem comes_1 {Post : Tables → Env → Array Value → State → Outcome → State → Prop} (hpost : ∀ tb e args s v u, (limb_1_1.after args s (.returned v) u = true ∧ limb_1_2.after args s (.returned v) u = true ∧ True) → FrameEnd s (.returned v) u (Jvm.fieldLocs frame_1_writes args s ++ Jvm.arrayLocs frame_1_arrays args s ++ Jvm.staticLocs frame_1_statics s) 16 128 → Post tb e args s (.returned v) u) :
    ArmFor flags0 classFile x code maxLocals ret World_1 tables_1 room_1 Calls_1 rest_1 Pre_1 Post := by
  intro l hfl _ _ p e ha hc hk s m args below hf hA hF happ hP
  obtain ⟨hcalls, hrest, hpre⟩ := hP
  obtain ⟨-, -, -, hnamed, -, -, -, hat⟩ := (Spec.applies_iff hf).mp happ
  obtain ⟨hg, hn⟩ := and_e (Cond.before_iff.mp (show (Jvm.Cond.and given_1 narrow_1).before args s = true from hpre))
  obtain ⟨g1, g2⟩ := and_e hg
  obtain ⟨g3, g4⟩ := and_e g2
  obtain ⟨g5, g6⟩ := and_e g4
  obtain ⟨g7, g8⟩ := and_e g6
  obtain ⟨w0, w1, w2, w3, rfl⟩ : ∃ w0 w1 w2 w3 : Value, args = #[w0, w1, w2, w3] := by
    have hs : args.size = 4 := by simpa [Cond.value, given_1] using g1
    obtain ⟨L⟩ := args
    match L, hs with
    | [w0, w1, w2, w3], _ => exact ⟨w0, w1, w2, w3, rfl⟩
  have hw := fun d (hd : d ∈ tables_1) => atoms_spec (ws := Jvm.Cond.code x code maxLocals ret :: tables_1) hat d (List.mem_cons_of_mem _ hd)
  have hfit : Fit s := fun {y c} hc i hi => by
    obtain ⟨ha, rfl⟩ := Array.getElem?_eq_some_iff.mp hc
    have q := List.all_eq_true.mp ((Array.all_eq_true_iff_forall_mem.mp hF) _ (Array.getElem_mem ha)) i (List.mem_range.mpr hi)
    simpa [Array.getElem?_eq_getElem hi] using q
  obtain ⟨i0, ei0⟩ := is_v g3
  obtain rfl : w0 = (.int i0) := Option.some.inj ei0
  obtain ⟨i1, ei1⟩ := isL_v g5
  obtain rfl : w1 = (.long i1) := Option.some.inj ei1
  obtain ⟨i2, ei2⟩ := is_v g7
  obtain rfl : w2 = (.int i2) := Option.some.inj ei2
  obtain ⟨i3, ei3⟩ := is_v g8
  obtain rfl : w3 = (.int i3) := Option.some.inj ei3
  obtain ⟨n, o, h1, h2, h3, _, L, rfl, ⟨rfl, N⟩, hq⟩ := rm0 l s _ hw tables_1 i0 i1 i2 i3 s.heap s.heap.size (Nat.le_refl _)  p e ha hc hk s m _ below hf ((Spec.applies_iff_loose hf).mp happ).1 ⟨rfl, State.Warmed39.refl s, rfl⟩ trivial
  refine ⟨n, _, h1, h2, h3, hpost _ _ _ _ _ _ ⟨Cond.after_iff.mpr rfl, Cond.after_iff.mpr (eq_i res_at (Term.int_eval (1)) rfl), trivial⟩ ⟨hq.1, hq.2.1, (hq.2.2.sift fun y hy => Or.inr (N y hy)).mono (by decide) (by decide)⟩⟩
theorem main_1_1 : Claimed_1_1 := comes_1 fun _ _ _ _ _ _ h hF => ⟨h.1, hF⟩
theorem main_1_2 : Claimed_1_2 := comes_1 fun _ _ _ _ _ _ h hF => ⟨h.2.1, hF⟩
end Jvm.Pilot.@@N@@
namespace Jvm.Pilot.@@N@@
open Jvm Jvm.ClassFile Sem Op Lib Jvm.Free Jvm.Stand Jvm.Pilot.@@N@@.Jvm.D
/-! MADE BY PROGRAM (witnessworld.py) out of the Statement's table words and the real class files: 13 classes; the members and pool entries that the words name. The judged class is class 1, her method 1. -/
namespace start1
open Jvm.ClassFile
def u (s : String) : CpInfo := .utf8 (stringToUtf16 s)
/-- a pool by its gaps: so many unusable entries, then the entry; so many at the end -/
def gap : Nat → List CpInfo → List CpInfo
  | 0, r => r
  | n + 1, r => .unusable :: gap n r
def poolList (es : List (Nat × CpInfo)) (last : Nat) : List CpInfo := es.foldr (fun e r => gap e.1 (e.2 :: r)) (gap last [])
def pool (es : List (Nat × CpInfo)) (last : Nat) : Array CpInfo := ⟨poolList es last⟩
def fileOf (pool : Array CpInfo) (this : Nat) (attrs : Array Attribute := #[]) (ms : Array MethodInfo := #[]) (fl : Nat := 33) (sup : Nat := 0) (ifs : Array Nat := #[]) (fds : Array FieldInfo := #[]) : ClassFile where
  minorVersion := 0
  majorVersion := 65
  constantPool := pool
  accessFlags := fl
  thisClass := this
  superClass := sup
  interfaces := ifs
  fields := fds
  methods := ms
  attributes := attrs
def plain (name : String) (sup : Option ClassId) : Class where
  name := name
  kind := .ordinary
  loader := none
  accessFlags := 33
  super := sup
  interfaces := #[]
  cf := none
  fields := #[]
  methods := #[]
  instanceTypes := #[]
  staticTypes := #[]
  resolved := #[]
  callSites := []
  init := .initialized
  statics := none
  mirror := none

def pool0 : Array CpInfo := pool [(5, u "<init>"), (0, u "()V"), (1, .class_ 10), (1, u "java/lang/Object")] 113

def k0c0 : Code := { maxStack := 0, maxLocals := 1, code := object_method_1_code, exceptionTable := #[], attributes := #[] }
def k0m0 : Method := { name := "<init>", desc := "()V", sig := { parameters := [], returnType := none }, accessFlags := 1, code := some k0c0 }
/-- java/lang/Object -/
def k0 : Class := { plain "java/lang/Object" none with
  accessFlags := 33
  interfaces := #[]
  cf := some (fileOf pool0 8 #[] #[{ accessFlags := 1, nameIndex := 5, descriptorIndex := 6, attributes := #[] }] 33 0 #[] #[])
  fields := #[]
  methods := #[k0m0]
  instanceTypes := #[]
  staticTypes := #[]
  resolved := Array.replicate 124 none
  statics := none }

def pool1 : Array CpInfo := pool [(2, .class_ 4), (1, u "java/lang/Object"), (0, u "<init>"), (0, u "()V"), (0, .integer 65535), (0, .long 65535), (1, .methodref 11 12), (0, .class_ 13), (0, .nameAndType 14 15), (0, u "java/lang/Math"), (0, u "min"), (0, u "(II)I"), (0, .integer 2147483647), (0, .class_ 18), (0, u "com/example/bitstrata/bitstrata/RunContainer"), (0, .methodref 17 20), (0, .nameAndType 5 21), (0, u "([C[CII)V"), (0, .methodref 17 23), (0, .nameAndType 24 25), (0, u "last"), (0, u "()C"), (0, .class_ 27), (0, u "com/example/bitstrata/bitstrata/RunContainerLastPinLaw"), (2, u "law"), (0, u "(IJII)Z")] 5

def k1m0 : Method := { name := "<init>", desc := "()V", sig := { parameters := [], returnType := none }, accessFlags := 1, code := none }
def k1c1 : Code := { maxStack := 6, maxLocals := 17, code := code, exceptionTable := #[], attributes := #[] }
def k1m1 : Method := { name := "law", desc := "(IJII)Z", sig := { parameters := [.int, .long, .int, .int], returnType := some .boolean }, accessFlags := 9, code := some k1c1 }
/-- com/example/bitstrata/bitstrata/RunContainerLastPinLaw -/
def k1 : Class := { plain "com/example/bitstrata/bitstrata/RunContainerLastPinLaw" (some 0) with
  accessFlags := 49
  interfaces := #[]
  cf := some (fileOf pool1 26 #[] #[{ accessFlags := 1, nameIndex := 5, descriptorIndex := 6, attributes := #[] }, { accessFlags := 9, nameIndex := 30, descriptorIndex := 31, attributes := #[] }] 49 2 #[] #[])
  fields := #[]
  methods := #[k1m0, k1m1]
  instanceTypes := #[]
  staticTypes := #[]
  resolved := Array.replicate 37 none
  statics := none }

def pool2 : Array CpInfo := pool [(1, .class_ 2), (0, u "java/lang/Math"), (1, .class_ 6), (1, u "java/lang/Object"), (0, u "<init>"), (0, u "()V"), (89, .class_ 100), (1, u "java/lang/Math$RandomNumberGeneratorHolder"), (71, u "negativeZeroFloatBits"), (0, u "J"), (2, u "negativeZeroDoubleBits"), (24, u "min"), (43, u "$assertionsDisabled"), (0, u "Z"), (88, u "(II)I"), (2, u "twoToTheDoubleScaleDown"), (0, u "D"), (4, u "twoToTheDoubleScaleUp"), (9, u "E"), (3, u "PI"), (2, u "TAU"), (2, u "DEGREES_TO_RADIANS"), (0, u "RADIANS_TO_DEGREES")] 94

def k2m0 : Method := { name := "<init>", desc := "()V", sig := { parameters := [], returnType := none }, accessFlags := 2, code := none }
def k2c1 : Code := { maxStack := 2, maxLocals := 2, code := jdk_29_method_69_code, exceptionTable := #[], attributes := #[] }
def k2m1 : Method := { name := "min", desc := "(II)I", sig := { parameters := [.int, .int], returnType := some .int }, accessFlags := 9, code := some k2c1 }
/-- java/lang/Math -/
def k2 : Class := { plain "java/lang/Math" (some 0) with
  accessFlags := 49
  interfaces := #[]
  cf := some (fileOf pool2 1 #[.nestMembers #[98]] #[{ accessFlags := 2, nameIndex := 7, descriptorIndex := 8, attributes := #[] }, { accessFlags := 9, nameIndex := 201, descriptorIndex := 335, attributes := #[] }] 49 4 #[] #[{ accessFlags := 25, nameIndex := 354, descriptorIndex := 339, attributes := #[] }, { accessFlags := 25, nameIndex := 358, descriptorIndex := 339, attributes := #[] }, { accessFlags := 25, nameIndex := 361, descriptorIndex := 339, attributes := #[] }, { accessFlags := 26, nameIndex := 364, descriptorIndex := 339, attributes := #[] }, { accessFlags := 26, nameIndex := 365, descriptorIndex := 339, attributes := #[] }, { accessFlags := 26, nameIndex := 172, descriptorIndex := 173, attributes := #[] }, { accessFlags := 26, nameIndex := 176, descriptorIndex := 173, attributes := #[] }, { accessFlags := 8, nameIndex := 344, descriptorIndex := 339, attributes := #[] }, { accessFlags := 8, nameIndex := 338, descriptorIndex := 339, attributes := #[] }, { accessFlags := 4120, nameIndex := 245, descriptorIndex := 246, attributes := #[] }])
  fields := #[{ name := "E", type := .double, accessFlags := 25, slot := 0, constantValue := 0 }, { name := "PI", type := .double, accessFlags := 25, slot := 1, constantValue := 0 }, { name := "TAU", type := .double, accessFlags := 25, slot := 2, constantValue := 0 }, { name := "DEGREES_TO_RADIANS", type := .double, accessFlags := 26, slot := 3, constantValue := 0 }, { name := "RADIANS_TO_DEGREES", type := .double, accessFlags := 26, slot := 4, constantValue := 0 }, { name := "negativeZeroFloatBits", type := .long, accessFlags := 26, slot := 5, constantValue := 0 }, { name := "negativeZeroDoubleBits", type := .long, accessFlags := 26, slot := 6, constantValue := 0 }, { name := "twoToTheDoubleScaleUp", type := .double, accessFlags := 8, slot := 7, constantValue := 0 }, { name := "twoToTheDoubleScaleDown", type := .double, accessFlags := 8, slot := 8, constantValue := 0 }, { name := "$assertionsDisabled", type := .boolean, accessFlags := 4120, slot := 9, constantValue := 0 }]
  methods := #[k2m0, k2m1]
  instanceTypes := #[]
  staticTypes := #[.double, .double, .double, .double, .double, .long, .long, .double, .double, .boolean]
  resolved := Array.replicate 460 none
  statics := none }

def pool3 : Array CpInfo := pool [(2, .class_ 4), (1, u "com/example/bitstrata/bitstrata/Container"), (28, .class_ 34), (0, u "java/lang/Object")] 36

/-- com/example/bitstrata/bitstrata/Container -/
def k3 : Class := { plain "com/example/bitstrata/bitstrata/Container" (some 0) with
  accessFlags := 1536
  interfaces := #[]
  cf := some (fileOf pool3 2 #[] #[] 1536 33 #[] #[])
  fields := #[]
  methods := #[]
  instanceTypes := #[]
  staticTypes := #[]
  resolved := Array.replicate 71 none
  statics := none }

def pool4 : Array CpInfo := pool [(1, .methodref 2 3), (0, .class_ 4), (0, .nameAndType 5 6), (0, u "java/lang/Object"), (0, u "<init>"), (0, u "()V"), (0, .fieldref 8 9), (0, .class_ 10), (0, .nameAndType 11 12), (0, u "com/example/bitstrata/bitstrata/RunContainer"), (0, u "starts"), (0, u "[C"), (0, .fieldref 8 14), (0, .nameAndType 15 12), (0, u "lasts"), (0, .fieldref 8 17), (0, .nameAndType 18 19), (0, u "runCount"), (0, u "I"), (0, .fieldref 8 21), (0, .nameAndType 22 19), (0, u "cardinality"), (12, u "([C[CII)V"), (39, u "()C"), (42, .class_ 119), (0, u "com/example/bitstrata/bitstrata/RunContainer$1"), (7, .class_ 128), (0, u "com/example/bitstrata/bitstrata/Container"), (25, u "INITIAL_CAPACITY"), (17, u "last")] 39

def k4c0 : Code := { maxStack := 2, maxLocals := 5, code := prog_11_method_1_code, exceptionTable := #[], attributes := #[] }
def k4m0 : Method := { name := "<init>", desc := "([C[CII)V", sig := { parameters := [(.array .char), (.array .char), .int, .int], returnType := none }, accessFlags := 0, code := some k4c0 }
def k4c1 : Code := { maxStack := 3, maxLocals := 1, code := prog_11_method_13_code, exceptionTable := #[], attributes := #[] }
def k4m1 : Method := { name := "last", desc := "()C", sig := { parameters := [], returnType := some .char }, accessFlags := 1, code := some k4c1 }
/-- com/example/bitstrata/bitstrata/RunContainer -/
def k4 : Class := { plain "com/example/bitstrata/bitstrata/RunContainer" (some 0) with
  accessFlags := 48
  interfaces := #[3]
  cf := some (fileOf pool4 8 #[.nestMembers #[118]] #[{ accessFlags := 0, nameIndex := 5, descriptorIndex := 35, attributes := #[] }, { accessFlags := 1, nameIndex := 172, descriptorIndex := 75, attributes := #[] }] 48 2 #[127] #[{ accessFlags := 26, nameIndex := 154, descriptorIndex := 19, attributes := #[] }, { accessFlags := 2, nameIndex := 11, descriptorIndex := 12, attributes := #[] }, { accessFlags := 2, nameIndex := 15, descriptorIndex := 12, attributes := #[] }, { accessFlags := 2, nameIndex := 18, descriptorIndex := 19, attributes := #[] }, { accessFlags := 2, nameIndex := 22, descriptorIndex := 19, attributes := #[] }])
  fields := #[{ name := "INITIAL_CAPACITY", type := .int, accessFlags := 26, slot := 0, constantValue := 0 }, { name := "starts", type := (.array .char), accessFlags := 2, slot := 0, constantValue := 0 }, { name := "lasts", type := (.array .char), accessFlags := 2, slot := 1, constantValue := 0 }, { name := "runCount", type := .int, accessFlags := 2, slot := 2, constantValue := 0 }, { name := "cardinality", type := .int, accessFlags := 2, slot := 3, constantValue := 0 }]
  methods := #[k4m0, k4m1]
  instanceTypes := #[(.array .char), (.array .char), .int, .int]
  staticTypes := #[.int]
  resolved := Array.replicate 212 none
  statics := none }

def pool5 : Array CpInfo := pool [(1, u "java/lang/Cloneable"), (0, .class_ 1), (0, u "java/lang/Object"), (0, .class_ 3)] 3

/-- java/lang/Cloneable -/
def k5 : Class := { plain "java/lang/Cloneable" (some 0) with
  accessFlags := 1537
  interfaces := #[]
  cf := some (fileOf pool5 2 #[] #[] 1537 4 #[] #[])
  fields := #[]
  methods := #[]
  instanceTypes := #[]
  staticTypes := #[]
  resolved := Array.replicate 8 none
  statics := none }

def pool6 : Array CpInfo := pool [(1, u "java/io/Serializable"), (0, .class_ 1), (0, u "java/lang/Object"), (0, .class_ 3)] 3

/-- java/io/Serializable -/
def k6 : Class := { plain "java/io/Serializable" (some 0) with
  accessFlags := 1537
  interfaces := #[]
  cf := some (fileOf pool6 2 #[] #[] 1537 4 #[] #[])
  fields := #[]
  methods := #[]
  instanceTypes := #[]
  staticTypes := #[]
  resolved := Array.replicate 8 none
  statics := none }

/-- the primitive byte -/
def k7 : Class := { plain "byte" none with kind := .primitive 'B', accessFlags := 0x411 }
/-- [B -/
def k8 : Class := { plain "[B" (some 0) with kind := .array 7 .byte, interfaces := #[5, 6], accessFlags := 1041 }

/-- the primitive char -/
def k9 : Class := { plain "char" none with kind := .primitive 'C', accessFlags := 0x411 }
/-- [C -/
def k10 : Class := { plain "[C" (some 0) with kind := .array 9 .char, interfaces := #[5, 6], accessFlags := 1041 }

/-- the primitive int -/
def k11 : Class := { plain "int" none with kind := .primitive 'I', accessFlags := 0x411 }
/-- [I -/
def k12 : Class := { plain "[I" (some 0) with kind := .array 11 .int, interfaces := #[5, 6], accessFlags := 1041 }

def heap : Heap := #[]
def classes : Array Class := #[k0, k1, k2, k3, k4, k5, k6, k7, k8, k9, k10, k11, k12]
def interned : List (Array UInt16 × Addr) := []
def slotsUsed : Nat := 0
def theMethod : MethodId := ⟨1, 1⟩
def args0 : Array Value := #[.int 5, .long 7, .int 3, .int 2]
def aboutOver (below : List Frame) : State where
  vm := { classes := classes, interned := interned.toArray }
  heap := heap
  slotsUsed := slotsUsed
  threads := #[{ frames := .invoking theMethod args0 :: below }]
def below0 : List Frame := [.native { method := ⟨0, 0⟩, args := #[] }]
def about1 : State := aboutOver below0
def p0 : Program := .bare "" "" ""
def e0 : Env := launch0.env 0 0 0
theorem w_frames : about1.frames = Frame.invoking theMethod args0 :: below0 := rfl
set_option maxRecDepth 65536 in
theorem w_args : argsFit about1.vm theMethod args0 = true := by decide +kernel
set_option maxRecDepth 65536 in
theorem w_heap : heapFits about1 = true := by decide +kernel
set_option maxRecDepth 65536 in
theorem w_runnable : about1.curStatus? = some .runnable := by decide +kernel
set_option maxRecDepth 65536 in
theorem w_alone : about1.alone = true := by decide +kernel
set_option maxRecDepth 65536 in
theorem w_named : about1.methodNamed? x = some theMethod := by decide +kernel
set_option maxRecDepth 65536 in
theorem w_hears : about1.hears theMethod below0 = true := by decide +kernel
set_option maxRecDepth 65536 in
theorem w_ripe : about1.ripe theMethod args0 below0 = true := by decide +kernel
theorem w_running : about1.status = .running := rfl
set_option maxRecDepth 65536 in
theorem w_room : about1.hasRoom e0.platform room_1 = true :=
  launch0.hasRoom_least _ room_1 (by decide +kernel) (by decide +kernel) (by decide +kernel) (by decide +kernel) (by decide +kernel) (by decide +kernel)
theorem allAtoms_all (ts : List Jvm.Cond) (a : Array Jvm.Value) (st : Jvm.State) : (allAtoms ts).before a st = ts.all (fun c => c.before a st) := by
  induction ts with
  | nil => rfl
  | cons c t ih =>
    show (Jvm.Cond.and c (allAtoms t)).before a st = _
    rw [Jvm.Cond.before_and, ih, List.all_cons]
def words1 : List Jvm.Cond := Jvm.Cond.code x code maxLocals ret :: tables_1
/-- a 'code' word, met by the world's own term for the bytes: nothing is compared byte by byte -/
theorem code_word {y : MethodName} {bytes : ByteArray} {mx : Nat} {rt : Option FieldType} {a : Array Value} {s : State} {m : MethodId} {meth : Method} {c : Code} (h1 : s.methodNamed? y = some m) (h2 : s.vm.method? m = some meth) (h3 : meth.code = some c) (h4 : c.code = bytes)
    (h5 : (c.maxLocals == mx && c.exceptionTable.isEmpty && decide (c.maxStack ≤ mostOperands) && decide (meth.sig.returnType = rt) && !meth.locks && decide (parseMethodDescriptor y.desc = some meth.sig)) = true) : (Jvm.Cond.code y bytes mx rt).before a s = true := by
  simp only [Bool.and_eq_true, beq_iff_eq, Bool.not_eq_true', decide_eq_true_eq] at h5
  obtain ⟨⟨⟨⟨⟨g1, g2⟩, g3⟩, g4⟩, g5⟩, g6⟩ := h5
  simp [Cond.before, Cond.holds, Cond.value, h1, h2, h3, h4, g1, g2, g3, g4, g5, g6]
def isCode : Jvm.Cond → Bool
  | .code _ _ _ _ => true
  | _ => false
theorem all_split {L : List Jvm.Cond} {P : Jvm.Cond → Bool} (h1 : L.all (fun c => isCode c || P c) = true) (h2 : ∀ c ∈ L.filter isCode, P c = true) : L.all P = true := by
  refine List.all_eq_true.mpr fun c hc => ?_
  have h := List.all_eq_true.mp h1 c hc
  rcases Bool.eq_false_or_eq_true (isCode c) with hi | hi
  · exact h2 c (List.mem_filter.mpr ⟨hc, hi⟩)
  · simpa [hi] using h
set_option maxRecDepth 65536 in
theorem w_c0 : (Jvm.Cond.code x code maxLocals ret).before args0 about1 = true := code_word (m := ⟨1, 1⟩) (meth := k1m1) (c := k1c1) (by decide +kernel) rfl rfl rfl (by decide +kernel)
set_option maxRecDepth 65536 in
theorem w_c1 : (Jvm.Cond.code ({ cls := "java/lang/Math", name := "min", desc := "(II)I" } : Jvm.MethodName) jdk_29_method_69_code (2 : Nat) (Option.some Jvm.ClassFile.FieldType.int)).before args0 about1 = true := code_word (m := ⟨2, 1⟩) (meth := k2m1) (c := k2c1) (by decide +kernel) rfl rfl rfl (by decide +kernel)
set_option maxRecDepth 65536 in
theorem w_c2 : (Jvm.Cond.code ({ cls := "com/example/bitstrata/bitstrata/RunContainer", name := "<init>", desc := "([C[CII)V" } : Jvm.MethodName) prog_11_method_1_code (5 : Nat) (Option.none : Option Jvm.ClassFile.FieldType)).before args0 about1 = true := code_word (m := ⟨4, 0⟩) (meth := k4m0) (c := k4c0) (by decide +kernel) rfl rfl rfl (by decide +kernel)
set_option maxRecDepth 65536 in
theorem w_c3 : (Jvm.Cond.code ({ cls := "java/lang/Object", name := "<init>", desc := "()V" } : Jvm.MethodName) object_method_1_code (1 : Nat) (Option.none : Option Jvm.ClassFile.FieldType)).before args0 about1 = true := code_word (m := ⟨0, 0⟩) (meth := k0m0) (c := k0c0) (by decide +kernel) rfl rfl rfl (by decide +kernel)
set_option maxRecDepth 65536 in
theorem w_c4 : (Jvm.Cond.code ({ cls := "com/example/bitstrata/bitstrata/RunContainer", name := "last", desc := "()C" } : Jvm.MethodName) prog_11_method_13_code (1 : Nat) (Option.some Jvm.ClassFile.FieldType.char)).before args0 about1 = true := code_word (m := ⟨4, 1⟩) (meth := k4m1) (c := k4c1) (by decide +kernel) rfl rfl rfl (by decide +kernel)
def codes1 : List Jvm.Cond := [Jvm.Cond.code x code maxLocals ret, Jvm.Cond.code ({ cls := "java/lang/Math", name := "min", desc := "(II)I" } : Jvm.MethodName) jdk_29_method_69_code (2 : Nat) (Option.some Jvm.ClassFile.FieldType.int), Jvm.Cond.code ({ cls := "com/example/bitstrata/bitstrata/RunContainer", name := "<init>", desc := "([C[CII)V" } : Jvm.MethodName) prog_11_method_1_code (5 : Nat) (Option.none : Option Jvm.ClassFile.FieldType), Jvm.Cond.code ({ cls := "java/lang/Object", name := "<init>", desc := "()V" } : Jvm.MethodName) object_method_1_code (1 : Nat) (Option.none : Option Jvm.ClassFile.FieldType), Jvm.Cond.code ({ cls := "com/example/bitstrata/bitstrata/RunContainer", name := "last", desc := "()C" } : Jvm.MethodName) prog_11_method_13_code (1 : Nat) (Option.some Jvm.ClassFile.FieldType.char)]
set_option maxRecDepth 65536 in
theorem codes_eq : words1.filter isCode = codes1 := rfl
theorem w_codes : ∀ c ∈ words1.filter isCode, c.before args0 about1 = true := by
  rw [codes_eq]
  intro c hc
  simp only [codes1, List.mem_cons, List.not_mem_nil, or_false] at hc
  rcases hc with rfl | rfl | rfl | rfl | rfl
  · exact w_c0
  · exact w_c1
  · exact w_c2
  · exact w_c3
  · exact w_c4
set_option maxRecDepth 65536 in
theorem w_t1 : (words1.take 24).all (fun c => isCode c || c.before args0 about1) = true := by decide +kernel
set_option maxRecDepth 65536 in
theorem w_t2 : (words1.drop 24).all (fun c => isCode c || c.before args0 about1) = true := by decide +kernel
theorem w_tables : (allAtoms (Jvm.Cond.code x code maxLocals ret :: tables_1)).before args0 about1 = true := by
  rw [allAtoms_all]
  show words1.all (fun c => c.before args0 about1) = true
  refine all_split ?_ w_codes
  rw [← List.take_append_drop 24 words1, List.all_append, w_t1, w_t2]
  rfl
set_option maxRecDepth 65536 in
theorem w_case : (Jvm.Cond.and given_1 narrow_1).before args0 about1 = true := by decide +kernel
theorem w_applies : (headSpec (Jvm.Cond.code x code maxLocals ret :: tables_1) room_1).applies x e0.platform about1 = true :=
  (Spec.applies_iff w_frames).mpr ⟨w_running, w_runnable, w_alone, w_named, w_hears, w_ripe, w_room, w_tables⟩
theorem atStart : AtStart classFile x code maxLocals ret World_1 tables_1 room_1 Calls_1 rest_1 Pre_1 launch0 p0 e0 about1 theMethod args0 below0 :=
  ⟨lists_1, trivial, launch0.admits_env _ _ _, launch0.least_env, fairChoices_fair.cas, fairChoices_fair.clock, w_frames, w_args, w_heap, w_applies, trivial, trivial, w_case⟩
end start1
theorem witness_1 : WitnessClaimed_1 := ⟨start1.p0, start1.e0, start1.about1, start1.theMethod, start1.args0, start1.below0, start1.atStart⟩
end Jvm.Pilot.@@N@@
