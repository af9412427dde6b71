import JvmDerived
import JvmDerived.Pilot.@@N@@Statement
import JvmDerived.Pilot.@@N@@Code
set_option linter.unusedVariables false
set_option linter.unusedSimpArgs false
namespace Jvm.RoadKit
open Sem ClassFile Op Lib Jvm.Stand Jvm.Free Jvm.LawKit
section New
variable {p : Program} {l : Launch} {e : Env} {R : Room} {s : State} {m : MethodId} {args : Array Value} {below : List Frame} {meth : Method} {c : Code} {T : State} {locs : List Loc} {cells slots : Nat}
theorem retI (X : Stand p l e R s m args below meth c T locs cells slots) (hx : p.tables.exec = Jvm.exec) {pc : Nat} {Ls : Array Slot} {z : Int32} {rest : List Value} (hret : meth.sig.returnType = some .int) (hd : decode c.code pc = .ok (.ireturn, 1)) {fs : List Frame}
    (hl : ∀ (f : JFrame) (acts : List Action), f.method = m → f.locked = none → f.entered = [] → (doReturn e (T.setTop f) acts (some (.int z))).1 = T.setFrames fs) : Steps p.tables e below (T.setTop (mkF m pc Ls (.int z :: rest))) (T.setFrames fs) := by
  have hm' : T.vm.method? m = some meth := X.method'
  have hn : narrow .int (.int z) = .int z := rfl
  show Steps p.tables e below (T.setTop { method := m, pc := pc, locals := Ls, stack := _ :: rest, locked := none }) _
  jvm_step X.here [X.here.top, hx, hd, hm', hret, hn]
  first | (intro acts; rw [hl _ acts rfl rfl rfl]) | rw [hl _ _ rfl rfl rfl]
  exact Steps.refl _
end New
end Jvm.RoadKit
namespace Jvm.Pilot.@@N@@
open Jvm Jvm.ClassFile Sem Op Lib Jvm.Free Jvm.Stand Jvm.LawKit Jvm.RoadKit Bundle Jvm.Pilot.@@N@@.Jvm.D
abbrev own_S (p : Program) (e : Env) (b : List Frame) (T : State) (m : MethodId) (pc : Nat) (L : Array Slot) (S : List Value) (t : State) : Prop := Steps p.tables e b (T.setTop (mkF m pc L S)) t
theorem own_sel {s : State} {args : Array Value} {y : MethodName} {n : Nat} (hins : (Cond.instantiable y.cls n).before args s = true) (hpriv : (Cond.privateMethod y).before args s = true) (hinst : (Cond.instanceMethod y).before args s = true) (hy : y.cls ≠ "java/lang/invoke/MethodHandle" ∧ y.cls ≠ "java/lang/invoke/VarHandle") : (Cond.selects y.cls y y).before args s = true := by
  obtain ⟨c, k, hc, hk, -, hniab, -, -⟩ := Cond.instantiable_spec hins
  exact selects_self_of_private hc hk (Bool.or_eq_false_iff.mp hniab).1 (Cond.privateMethod_at hpriv) hinst hy
theorem pn_0 : plainName "com/example/converge/converge/runtime/WireReader" = true := by first | (simp [plainName, overriddenIn]; done) | decide +kernel
theorem ef_2 (m : MethodId) (a1 : Addr) (a2 : Addr) (p3 : Int32) (p4 : Int32) : entryFrame m #[(.ref a1), (.ref a2), (.int p3), (.int p4)] 4 = mkF m 0 #[rv a1, rv a2, iv p3, iv p4] [] := by first | (simp [entryFrame, mkF, argsToLocals, Value.category]; done) | rfl
def Q2 (Z : State) (a1 : Addr) (a2 : Addr) (p3 : Int32) (p4 : Int32) (h0 : Heap) (n0 : Nat) (v : Option Value) (h : Heap) (L : List Loc) : Prop := v = none ∧ Fr n0 L ∧ Keep h0 h [a1] ∧ Exa Z h a1 "com/example/converge/converge/runtime/WireReader" ∧ Fld Z h a1 "com/example/converge/converge/runtime/WireReader" "_bytes" "[B" (.ref a2) ∧ Fld Z h a1 "com/example/converge/converge/runtime/WireReader" "_position" "I" (.int p3) ∧ Fld Z h a1 "com/example/converge/converge/runtime/WireReader" "_end" "I" (.int p4)
theorem d2_0 : decode prog_91_method_2_code 0 = .ok (.aload_n 0, 1) := by decide +kernel
theorem d2_1 : decode prog_91_method_2_code 1 = .ok (.invokespecial 7, 3) := by decide +kernel
theorem d2_4 : decode prog_91_method_2_code 4 = .ok (.aload_n 0, 1) := by decide +kernel
theorem d2_5 : decode prog_91_method_2_code 5 = .ok (.aload_n 1, 1) := by decide +kernel
theorem d2_6 : decode prog_91_method_2_code 6 = .ok (.putfield 12, 3) := by decide +kernel
theorem d2_9 : decode prog_91_method_2_code 9 = .ok (.aload_n 0, 1) := by decide +kernel
theorem d2_10 : decode prog_91_method_2_code 10 = .ok (.iload_n 2, 1) := by decide +kernel
theorem d2_11 : decode prog_91_method_2_code 11 = .ok (.putfield 16, 3) := by decide +kernel
theorem d2_14 : decode prog_91_method_2_code 14 = .ok (.aload_n 0, 1) := by decide +kernel
theorem d2_15 : decode prog_91_method_2_code 15 = .ok (.iload_n 3, 1) := by decide +kernel
theorem d2_16 : decode prog_91_method_2_code 16 = .ok (.putfield 20, 3) := by decide +kernel
theorem d2_19 : decode prog_91_method_2_code 19 = .ok (.return_, 1) := by decide +kernel
set_option maxRecDepth 65536 in
set_option maxHeartbeats 40000000 in
theorem rm2 (l : Launch) (Z : State) (a0 : Array Value) (hw : ∀ d ∈ tables_1, d.before a0 Z = true) (ws : List Jvm.Cond) (a1 : Addr) (a2 : Addr) (p3 : Int32) (p4 : Int32) (h0 : Heap) (n0 : Nat) (Z0 : n0 ≤ h0.size) (E_a1 : Exa Z h0 a1 "com/example/converge/converge/runtime/WireReader") (g_a1 : n0 ≤ a1) (F_b : Fld Z h0 a1 "com/example/converge/converge/runtime/WireReader" "_bytes" "[B" .null) (F_p : Fld Z h0 a1 "com/example/converge/converge/runtime/WireReader" "_position" "I" (.int (0 : Int32))) (F_e : Fld Z h0 a1 "com/example/converge/converge/runtime/WireReader" "_end" "I" (.int (0 : Int32))) :
    MetFree l (⟨"com/example/converge/converge/runtime/WireReader", "<init>", "([BII)V"⟩ : MethodName) (head1 (Jvm.Cond.code (⟨"com/example/converge/converge/runtime/WireReader", "<init>", "([BII)V"⟩ : MethodName) prog_91_method_2_code 4 none :: ws) ({ frames := 1, cells := 0, slots := 0, locals := 12 } : Room)) (fun a U => a = #[(.ref a1), (.ref a2), (.int p3), (.int p4)] ∧ Z.Warmed39 U.vm ∧ U.heap = h0) (fun _ _ _ _ _ => True) (fun _ U o U' => ∃ v L, o = .returned v ∧ Q2 Z a1 a2 p3 p4 h0 n0 v U'.heap L ∧ FrameEnd U o U' L ({ frames := 1, cells := 0, slots := 0, locals := 12 } : Room).cells ({ frames := 1, cells := 0, slots := 0, locals := 12 } : Room).slots) := by
  refine MetFree.of_bodySF (plainFor_of_name pn_0) hisR ?_
  intro p e s m args below meth c s₁ Bd hml0 hP hK
  obtain ⟨rfl, hZ, hh⟩ := hP
  have hx := Bd.exec
  have hby := Bd.bytes
  have hml : c.maxLocals = 4 := hml0
  have hown : s.vm.findClass "com/example/converge/converge/runtime/WireReader" = some m.cls := findClass_of_methodNamed Bd.named
  have hnm := (name_of_methodNamed Bd.named Bd.method).1
  have X0 : Stand p l e ({ frames := 1, cells := 0, slots := 0, locals := 12 } : Room) s m #[(.ref a1), (.ref a2), (.int p3), (.int p4)] below meth c s₁ [] 0 0 := Stand.of_body Bd
  have e0 : s₁.heap = h0 := by rw [← hh, Bd.state]; rfl
  have N0 := Fr.nil n0
  have pre0 : ∀ t, Steps p.tables e below (s₁.setTop (mkF m 0 #[rv a1, rv a2, iv p3, iv p4] [])) t → Steps p.tables e below (s₁.setTop (entryFrame m #[(.ref a1), (.ref a2), (.int p3), (.int p4)] 4)) t := fun t k => castTop (ef_2 m a1 a2 p3 p4) k
  obtain ⟨T1, X1, e1, st1⟩ := initO X0 hx hZ hown (hw _ (List.mem_of_getElem? (i := 10) rfl)) (hw _ (List.mem_of_getElem? (i := 11) rfl)) (hw _ (List.mem_of_getElem? (i := 12) rfl)) e0 (g := (mkF m 1 #[rv a1, rv a2, iv p3, iv p4] [(.ref a1)])) rfl (by rw [hml]; rfl) rfl (hb hby d2_1) (by decide) (W := 0) (by show 2 * 0 + _ ≤ _; exact Nat.le_of_eq rfl) (by decide)
  obtain ⟨T2, h2, X2, e2, W2, st2⟩ := putF X1 hx hZ hown (host := "") (Or.inl (hw _ (List.mem_of_getElem? (i := 13) rfl))) Via.refl e1 F_b E_a1 (Or.inr ⟨(hw _ (List.mem_of_getElem? (i := 14) rfl)), rfl, hnm⟩) (hw _ (List.mem_of_getElem? (i := 2) rfl)) (ty := (.array .byte)) (by decide) rfl rfl (g := (mkF m 6 #[rv a1, rv a2, iv p3, iv p4] [(.ref a2), (.ref a1)])) rfl rfl (hb hby d2_6)
  have Fw2 := F_b.same W2
  have N2 := Fr.snoc X2 N0 g_a1
  have Fn_3 := (F_p.other W2 (Or.inr (slot_ne (Or.inl (hw _ (List.mem_of_getElem? (i := 16) rfl))) (Or.inr (hw _ (List.mem_of_getElem? (i := 14) rfl))) (by decide) (t := .int) (t' := (.array .byte)) (by decide) (by decide))))
  have En_4 := (E_a1.wr W2)
  obtain ⟨T5, h5, X5, e5, W5, st5⟩ := putF X2 hx hZ hown (host := "") (Or.inl (hw _ (List.mem_of_getElem? (i := 15) rfl))) Via.refl e2 Fn_3 En_4 (Or.inl (hw _ (List.mem_of_getElem? (i := 16) rfl))) (hw _ (List.mem_of_getElem? (i := 2) rfl)) (ty := .int) (by decide) rfl rfl (g := (mkF m 11 #[rv a1, rv a2, iv p3, iv p4] [(.int p3), (.ref a1)])) rfl rfl (hb hby d2_11)
  have Fw5 := Fn_3.same W5
  have N5 := Fr.snoc X5 N2 g_a1
  have Fn_6 := ((F_e.other W2 (Or.inr (slot_ne (Or.inr (hw _ (List.mem_of_getElem? (i := 18) rfl))) (Or.inr (hw _ (List.mem_of_getElem? (i := 14) rfl))) (by decide) (t := .int) (t' := (.array .byte)) (by decide) (by decide)))).other W5 (Or.inr (slot_ne (Or.inr (hw _ (List.mem_of_getElem? (i := 18) rfl))) (Or.inl (hw _ (List.mem_of_getElem? (i := 16) rfl))) (by decide) (t := .int) (t' := .int) (by decide) (by decide))))
  have En_7 := (En_4.wr W5)
  obtain ⟨T8, h8, X8, e8, W8, st8⟩ := putF X5 hx hZ hown (host := "") (Or.inl (hw _ (List.mem_of_getElem? (i := 17) rfl))) Via.refl e5 Fn_6 En_7 (Or.inr ⟨(hw _ (List.mem_of_getElem? (i := 18) rfl)), rfl, hnm⟩) (hw _ (List.mem_of_getElem? (i := 2) rfl)) (ty := .int) (by decide) rfl rfl (g := (mkF m 16 #[rv a1, rv a2, iv p3, iv p4] [(.int p4), (.ref a1)])) rfl rfl (hb hby d2_16)
  have Fw8 := Fn_6.same W8
  have N8 := Fr.snoc X8 N5 g_a1
  have pre9 : ∀ t, own_S p e below T8 m 19 #[rv a1, rv a2, iv p3, iv p4] [] t → Steps p.tables e below (s₁.setTop (entryFrame m #[(.ref a1), (.ref a2), (.int p3), (.int p4)] 4)) t := fun t k => pre0 t (by
    show own_S p e below s₁ m 0 #[rv a1, rv a2, iv p3, iv p4] [] _
    refine XS.aloadN X0.here hx rfl (hb hby d2_0) rfl rfl ?_
    show own_S p e below s₁ m 1 #[rv a1, rv a2, iv p3, iv p4] [(.ref a1)] _
    refine st1 _ ?_
    show own_S p e below T1 m 4 #[rv a1, rv a2, iv p3, iv p4] [] _
    refine XS.aloadN X1.here hx rfl (hb hby d2_4) rfl rfl ?_
    show own_S p e below T1 m 5 #[rv a1, rv a2, iv p3, iv p4] [(.ref a1)] _
    refine XS.aloadN X1.here hx rfl (hb hby d2_5) rfl rfl ?_
    show own_S p e below T1 m 6 #[rv a1, rv a2, iv p3, iv p4] [(.ref a2), (.ref a1)] _
    refine st2 _ ?_
    show own_S p e below T2 m 9 #[rv a1, rv a2, iv p3, iv p4] [] _
    refine XS.aloadN X2.here hx rfl (hb hby d2_9) rfl rfl ?_
    show own_S p e below T2 m 10 #[rv a1, rv a2, iv p3, iv p4] [(.ref a1)] _
    refine XS.iloadN X2.here hx rfl (hb hby d2_10) rfl ?_
    show own_S p e below T2 m 11 #[rv a1, rv a2, iv p3, iv p4] [(.int p3), (.ref a1)] _
    refine st5 _ ?_
    show own_S p e below T5 m 14 #[rv a1, rv a2, iv p3, iv p4] [] _
    refine XS.aloadN X5.here hx rfl (hb hby d2_14) rfl rfl ?_
    show own_S p e below T5 m 15 #[rv a1, rv a2, iv p3, iv p4] [(.ref a1)] _
    refine XS.iloadN X5.here hx rfl (hb hby d2_15) rfl ?_
    show own_S p e below T5 m 16 #[rv a1, rv a2, iv p3, iv p4] [(.int p4), (.ref a1)] _
    refine st8 _ ?_
    exact k)
  obtain ⟨fs, hr, hrun, hended, hW, hsame⟩ := X8.leave (v := none) (fun _ => rfl)
  refine ⟨_, _, pre9 _ ?_, hrun, hended, _, _, rfl, ?_, ⟨_, rfl⟩, hW, hsame.mono (by decide) (by decide)⟩
  · show own_S p e below T8 m 19 #[rv a1, rv a2, iv p3, iv p4] [] _
    exact X8.returnOut hx Bd.returns (hb hby d2_19) hr
  · show Q2 Z a1 a2 p3 p4 h0 n0 _ T8.heap _
    rw [e8]
    have En_10 := (En_7.wr W8)
    have Fn_11 := ((Fw2.other W5 (Or.inr (slot_ne (Or.inr (hw _ (List.mem_of_getElem? (i := 14) rfl))) (Or.inl (hw _ (List.mem_of_getElem? (i := 16) rfl))) (by decide) (t := (.array .byte)) (t' := .int) (by decide) (by decide)))).other W8 (Or.inr (slot_ne (Or.inr (hw _ (List.mem_of_getElem? (i := 14) rfl))) (Or.inr (hw _ (List.mem_of_getElem? (i := 18) rfl))) (by decide) (t := (.array .byte)) (t' := .int) (by decide) (by decide))))
    have Fn_12 := (Fw5.other W8 (Or.inr (slot_ne (Or.inl (hw _ (List.mem_of_getElem? (i := 16) rfl))) (Or.inr (hw _ (List.mem_of_getElem? (i := 18) rfl))) (by decide) (t := .int) (t' := .int) (by decide) (by decide))))
    exact ⟨rfl, N8, ((((Keep.refl h0 [a1]).wr W2 (Or.inl (List.mem_of_getElem? (i := 0) rfl))).wr W5 (Or.inl (List.mem_of_getElem? (i := 0) rfl))).wr W8 (Or.inl (List.mem_of_getElem? (i := 0) rfl))), En_10, Fn_11, Fn_12, Fw8⟩
theorem ef_1 (m : MethodId) (a1 : Addr) (a2 : Addr) : entryFrame m #[(.ref a1), (.ref a2)] 2 = mkF m 0 #[rv a1, rv a2] [] := by first | (simp [entryFrame, mkF, argsToLocals, Value.category]; done) | rfl
def Q1 (Z : State) (a1 : Addr) (a2 : Addr) (k : ClassId) (z : Int32) (vs : List Value) (h0 : Heap) (n0 : Nat) (v : Option Value) (h : Heap) (L : List Loc) : Prop := v = none ∧ Fr n0 L ∧ Keep h0 h [a1] ∧ Exa Z h a1 "com/example/converge/converge/runtime/WireReader" ∧ Fld Z h a1 "com/example/converge/converge/runtime/WireReader" "_bytes" "[B" (.ref a2) ∧ Fld Z h a1 "com/example/converge/converge/runtime/WireReader" "_position" "I" (.int (0 : Int32)) ∧ Fld Z h a1 "com/example/converge/converge/runtime/WireReader" "_end" "I" (.int z)
theorem d1_0 : decode prog_91_method_1_code 0 = .ok (.aload_n 0, 1) := by decide +kernel
theorem d1_1 : decode prog_91_method_1_code 1 = .ok (.aload_n 1, 1) := by decide +kernel
theorem d1_2 : decode prog_91_method_1_code 2 = .ok (.iconst 0, 1) := by decide +kernel
theorem d1_3 : decode prog_91_method_1_code 3 = .ok (.aload_n 1, 1) := by decide +kernel
theorem d1_4 : decode prog_91_method_1_code 4 = .ok (.arraylength, 1) := by decide +kernel
theorem d1_5 : decode prog_91_method_1_code 5 = .ok (.invokespecial 1, 3) := by decide +kernel
theorem pd_0 : parseMethodDescriptor "([BII)V" = some ⟨[(.array .byte), .int, .int], none⟩ := by decide +kernel
theorem d1_8 : decode prog_91_method_1_code 8 = .ok (.return_, 1) := by decide +kernel
set_option maxRecDepth 65536 in
set_option maxHeartbeats 40000000 in
theorem rm1 (l : Launch) (Z : State) (a0 : Array Value) (hw : ∀ d ∈ tables_1, d.before a0 Z = true) (ws : List Jvm.Cond) (a1 : Addr) (a2 : Addr) (k : ClassId) (z : Int32) (vs : List Value) (h0 : Heap) (n0 : Nat) (Z0 : n0 ≤ h0.size) (E_a1 : Exa Z h0 a1 "com/example/converge/converge/runtime/WireReader") (g_a1 : n0 ≤ a1) (F_b : Fld Z h0 a1 "com/example/converge/converge/runtime/WireReader" "_bytes" "[B" .null) (F_p : Fld Z h0 a1 "com/example/converge/converge/runtime/WireReader" "_position" "I" (.int (0 : Int32))) (F_e : Fld Z h0 a1 "com/example/converge/converge/runtime/WireReader" "_end" "I" (.int (0 : Int32))) (V_a2 : Arv Z h0 a2 k .byte z vs (.int (0 : Int32))) :
    MetFree l (⟨"com/example/converge/converge/runtime/WireReader", "<init>", "([B)V"⟩ : MethodName) (head1 (Jvm.Cond.code (⟨"com/example/converge/converge/runtime/WireReader", "<init>", "([B)V"⟩ : MethodName) prog_91_method_1_code 2 none :: ws) ({ frames := 2, cells := 0, slots := 0, locals := 28 } : Room)) (fun a U => a = #[(.ref a1), (.ref a2)] ∧ Z.Warmed39 U.vm ∧ U.heap = h0) (fun _ _ _ _ _ => True) (fun _ U o U' => ∃ v L, o = .returned v ∧ Q1 Z a1 a2 k z vs h0 n0 v U'.heap L ∧ FrameEnd U o U' L ({ frames := 2, cells := 0, slots := 0, locals := 28 } : Room).cells ({ frames := 2, cells := 0, slots := 0, locals := 28 } : Room).slots) := by
  refine MetFree.of_bodySF (plainFor_of_name pn_0) hisR ?_
  intro p e s m args below meth c s₁ Bd hml0 hP hK
  obtain ⟨rfl, hZ, hh⟩ := hP
  have hx := Bd.exec
  have hby := Bd.bytes
  have hml : c.maxLocals = 2 := hml0
  have hown : s.vm.findClass "com/example/converge/converge/runtime/WireReader" = some m.cls := findClass_of_methodNamed Bd.named
  have hnm := (name_of_methodNamed Bd.named Bd.method).1
  have X0 : Stand p l e ({ frames := 2, cells := 0, slots := 0, locals := 28 } : Room) s m #[(.ref a1), (.ref a2)] below meth c s₁ [] 0 0 := Stand.of_body Bd
  have e0 : s₁.heap = h0 := by rw [← hh, Bd.state]; rfl
  have N0 := Fr.nil n0
  have pre0 : ∀ t, Steps p.tables e below (s₁.setTop (mkF m 0 #[rv a1, rv a2] [])) t → Steps p.tables e below (s₁.setTop (entryFrame m #[(.ref a1), (.ref a2)] 2)) t := fun t k => castTop (ef_1 m a1 a2) k
  obtain ⟨cl1, Ar1, q1, S1, M1, -, -⟩ := id V_a2
  obtain ⟨_, _, ⟨T2, L2, k2, n2⟩, -, X2, ⟨Lc2, hQ2, l2, y2, z2⟩, st2⟩ := X0.specialBack hx (y := (⟨"com/example/converge/converge/runtime/WireReader", "<init>", "([BII)V"⟩ : MethodName)) rfl hown (mvT hZ (hw _ (List.mem_of_getElem? (i := 7) rfl))) (mvT hZ (hw _ (List.mem_of_getElem? (i := 8) rfl))) (mvT hZ (hw _ (List.mem_of_getElem? (i := 9) rfl))) (by decide) (backOf (W := 0) (rm2 l Z a0 hw [] a1 a2 (0 : Int32) z h0 n0 Z0 E_a1 g_a1 F_b F_p F_e) hZ (hw _ (List.mem_of_getElem? (i := 9) rfl)) (hw _ (List.mem_of_getElem? (i := 3) rfl)) (by decide) (by decide)) (g := (mkF m 5 #[rv a1, rv a2] [(.int z), (.int (0 : Int32)), (.ref a2), (.ref a1)])) rfl (by rw [hml]; rfl) (Steps.refl _) (a := a1) (argsL := [(.ref a2), (.int (0 : Int32)), (.int z)]) (rest := []) (lenOf pd_0 rfl) rfl (by show 2 * 0 + _ ≤ _; exact Nat.le_of_eq rfl) (hb hby d1_5) (fun _ _ => ⟨rfl, e0, (by decide : 0 + 0 ≤ _), (by decide : 0 + 0 ≤ _)⟩)
  dsimp only [Pt.U, Pt.locs, Pt.cells, Pt.slots] at X2 l2 y2 z2 st2 hQ2
  subst l2 y2 z2
  obtain ⟨rfl, N2q, K2, E2c, Fb2, Fp2, Fe2⟩ := hQ2
  have N2 := Fr.app N0 N2q
  have pre3 : ∀ t, own_S p e below T2 m 8 #[rv a1, rv a2] [] t → Steps p.tables e below (s₁.setTop (entryFrame m #[(.ref a1), (.ref a2)] 2)) t := fun t k => pre0 t (by
    show own_S p e below s₁ m 0 #[rv a1, rv a2] [] _
    refine XS.aloadN X0.here hx rfl (hb hby d1_0) rfl rfl ?_
    show own_S p e below s₁ m 1 #[rv a1, rv a2] [(.ref a1)] _
    refine XS.aloadN X0.here hx rfl (hb hby d1_1) rfl rfl ?_
    show own_S p e below s₁ m 2 #[rv a1, rv a2] [(.ref a2), (.ref a1)] _
    refine XS.iconst X0.here hx rfl (hb hby d1_2) ?_
    show own_S p e below s₁ m 3 #[rv a1, rv a2] [(.int (0 : Int32)), (.ref a2), (.ref a1)] _
    refine XS.aloadN X0.here hx rfl (hb hby d1_3) rfl rfl ?_
    show own_S p e below s₁ m 4 #[rv a1, rv a2] [(.ref a2), (.int (0 : Int32)), (.ref a2), (.ref a1)] _
    refine X0.arraylength hx (by rw [e0]; exact Ar1.1) (State.isArrayOf_alike hZ.alike Ar1.2.1) (g := (mkF m 4 #[rv a1, rv a2] [(.ref a2), (.int (0 : Int32)), (.ref a2), (.ref a1)])) rfl rfl (hb hby d1_4) _ ?_
    rw [len_of S1 M1]
    show own_S p e below s₁ m 5 #[rv a1, rv a2] [(.int z), (.int (0 : Int32)), (.ref a2), (.ref a1)] _
    refine st2.trans ?_
    exact k)
  obtain ⟨fs, hr, hrun, hended, hW, hsame⟩ := X2.leave (v := none) (fun _ => rfl)
  refine ⟨_, _, pre3 _ ?_, hrun, hended, _, _, rfl, ?_, ⟨_, rfl⟩, hW, hsame.mono (by decide) (by decide)⟩
  · show own_S p e below T2 m 8 #[rv a1, rv a2] [] _
    exact X2.returnOut hx Bd.returns (hb hby d1_8) hr
  · show Q1 Z a1 a2 k z vs h0 n0 _ T2.heap _
    exact ⟨rfl, N2, ((Keep.refl h0 [a1]).trans K2 (allS (Or.inl (List.mem_of_getElem? (i := 0) rfl)) all0)), E2c, Fb2, Fp2, Fe2⟩
def own_end (p q : Int32) : Int32 := if p = q then 1 else 0
theorem ef_4 (m : MethodId) (a1 : Addr) : entryFrame m #[(.ref a1)] 1 = mkF m 0 #[rv a1] [] := by first | (simp [entryFrame, mkF, argsToLocals, Value.category]; done) | rfl
def Q4 (Z : State) (a1 : Addr) (p2 : Int32) (p3 : Int32) (h0 : Heap) (n0 : Nat) (v : Option Value) (h : Heap) (L : List Loc) : Prop := v = some (.int (own_end p2 p3)) ∧ Fr n0 L ∧ h = h0
theorem d4_0 : decode prog_91_method_4_code 0 = .ok (.aload_n 0, 1) := by decide +kernel
theorem d4_1 : decode prog_91_method_4_code 1 = .ok (.getfield 16, 3) := by decide +kernel
theorem d4_4 : decode prog_91_method_4_code 4 = .ok (.aload_n 0, 1) := by decide +kernel
theorem d4_5 : decode prog_91_method_4_code 5 = .ok (.getfield 20, 3) := by decide +kernel
theorem d4_8 : decode prog_91_method_4_code 8 = .ok (.if_icmp .ne 7, 3) := by decide +kernel
theorem d4_11 : decode prog_91_method_4_code 11 = .ok (.iconst 1, 1) := by decide +kernel
theorem d4_12 : decode prog_91_method_4_code 12 = .ok (.goto 4, 3) := by decide +kernel
theorem d4_16 : decode prog_91_method_4_code 16 = .ok (.ireturn, 1) := by decide +kernel
theorem d4_15 : decode prog_91_method_4_code 15 = .ok (.iconst 0, 1) := by decide +kernel
set_option maxRecDepth 65536 in
set_option maxHeartbeats 40000000 in
theorem rm4 (l : Launch) (Z : State) (a0 : Array Value) (hw : ∀ d ∈ tables_1, d.before a0 Z = true) (ws : List Jvm.Cond) (a1 : Addr) (p2 : Int32) (p3 : Int32) (h0 : Heap) (n0 : Nat) (Z0 : n0 ≤ h0.size) (F_p : Fld Z h0 a1 "com/example/converge/converge/runtime/WireReader" "_position" "I" (.int p2)) (F_e : Fld Z h0 a1 "com/example/converge/converge/runtime/WireReader" "_end" "I" (.int p3)) :
    MetFree l (⟨"com/example/converge/converge/runtime/WireReader", "isAtEnd", "()Z"⟩ : MethodName) (head1 (Jvm.Cond.code (⟨"com/example/converge/converge/runtime/WireReader", "isAtEnd", "()Z"⟩ : MethodName) prog_91_method_4_code 1 (some .boolean) :: ws) ({ frames := 0, cells := 0, slots := 0, locals := 0 } : Room)) (fun a U => a = #[(.ref a1)] ∧ Z.Warmed39 U.vm ∧ U.heap = h0) (fun _ _ _ _ _ => True) (fun _ U o U' => ∃ v L, o = .returned v ∧ Q4 Z a1 p2 p3 h0 n0 v U'.heap L ∧ FrameEnd U o U' L ({ frames := 0, cells := 0, slots := 0, locals := 0 } : Room).cells ({ frames := 0, cells := 0, slots := 0, locals := 0 } : Room).slots) := by
  refine MetFree.of_bodySF (plainFor_of_name pn_0) hisR ?_
  intro p e s m args below meth c s₁ Bd hml0 hP hK
  obtain ⟨rfl, hZ, hh⟩ := hP
  have hx := Bd.exec
  have hby := Bd.bytes
  have hml : c.maxLocals = 1 := hml0
  have hown : s.vm.findClass "com/example/converge/converge/runtime/WireReader" = some m.cls := findClass_of_methodNamed Bd.named
  have hnm := (name_of_methodNamed Bd.named Bd.method).1
  have X0 : Stand p l e ({ frames := 0, cells := 0, slots := 0, locals := 0 } : Room) s m #[(.ref a1)] below meth c s₁ [] 0 0 := Stand.of_body Bd
  have e0 : s₁.heap = h0 := by rw [← hh, Bd.state]; rfl
  have N0 := Fr.nil n0
  have pre0 : ∀ t, Steps p.tables e below (s₁.setTop (mkF m 0 #[rv a1] [])) t → Steps p.tables e below (s₁.setTop (entryFrame m #[(.ref a1)] 1)) t := fun t k => castTop (ef_4 m a1) k
  obtain ⟨T1, X1, e1, st1⟩ := getF X0 hx hZ hown (host := "") (Or.inl (hw _ (List.mem_of_getElem? (i := 15) rfl))) Via.refl e0 F_p (g := (mkF m 1 #[rv a1] [(.ref a1)])) rfl rfl (hb hby d4_1)
  obtain ⟨T2, X2, e2, st2⟩ := getF X1 hx hZ hown (host := "") (Or.inl (hw _ (List.mem_of_getElem? (i := 17) rfl))) Via.refl e1 F_e (g := (mkF m 5 #[rv a1] [(.ref a1), (.int p2)])) rfl rfl (hb hby d4_5)
  have pre4 : ∀ t, own_S p e below T2 m 8 #[rv a1] [(.int p3), (.int p2)] t → Steps p.tables e below (s₁.setTop (entryFrame m #[(.ref a1)] 1)) t := fun t k => pre0 t (by
    show own_S p e below s₁ m 0 #[rv a1] [] _
    refine XS.aloadN X0.here hx rfl (hb hby d4_0) rfl rfl ?_
    show own_S p e below s₁ m 1 #[rv a1] [(.ref a1)] _
    refine st1 _ ?_
    show own_S p e below T1 m 4 #[rv a1] [(.int p2)] _
    refine XS.aloadN X1.here hx rfl (hb hby d4_4) rfl rfl ?_
    show own_S p e below T1 m 5 #[rv a1] [(.ref a1), (.int p2)] _
    refine st2 _ ?_
    exact k)
  by_cases hc8_3 : p2 = p3
  ·  -- pc 8 yes
    have pre5 : ∀ t, own_S p e below T2 m 16 #[rv a1] [(.int (1 : Int32))] t → Steps p.tables e below (s₁.setTop (entryFrame m #[(.ref a1)] 1)) t := fun t k => pre4 t (by
      show own_S p e below T2 m 8 #[rv a1] [(.int p3), (.int p2)] _
      refine XS.icmpNo X2.here hx rfl (hb hby d4_8) rfl (teq hc8_3).2 ?_
      show own_S p e below T2 m 11 #[rv a1] [] _
      refine XS.iconst X2.here hx rfl (hb hby d4_11) ?_
      show own_S p e below T2 m 12 #[rv a1] [(.int (1 : Int32))] _
      refine XS.goto X2.here hx rfl (pc0 := 12) (pc' := 16) rfl (hb hby d4_12) (by decide) (by decide) ?_
      exact k)
    obtain ⟨fs, hr, hrun, hended, hW, hsame⟩ := X2.leave (v := some (.int (nar .boolean (1 : Int32)))) (fun h => by rw [Bd.returns] at h; cases h)
    refine ⟨_, _, pre5 _ ?_, hrun, hended, _, _, rfl, ?_, ⟨_, rfl⟩, hW, hsame.mono (by decide) (by decide)⟩
    · show own_S p e below T2 m 16 #[rv a1] [(.int (1 : Int32))] _
      exact retN X2 hx (t := .boolean) Bd.returns (by simp) (hb hby d4_16) hr
    · show Q4 Z a1 p2 p3 h0 n0 _ T2.heap _
      rw [e2]
      exact ⟨by rw [(by decide : nar .boolean (1 : Int32) = (1 : Int32))]; simp [own_end, hc8_3], N0, rfl⟩
  ·  -- pc 8 no
    have pre6 : ∀ t, own_S p e below T2 m 16 #[rv a1] [(.int (0 : Int32))] t → Steps p.tables e below (s₁.setTop (entryFrame m #[(.ref a1)] 1)) t := fun t k => pre4 t (by
      show own_S p e below T2 m 8 #[rv a1] [(.int p3), (.int p2)] _
      refine XS.icmpYes X2.here hx rfl (pc0 := 8) (pc' := 15) rfl (hb hby d4_8) rfl (feq hc8_3).2 (by decide) (by decide) ?_
      show own_S p e below T2 m 15 #[rv a1] [] _
      refine XS.iconst X2.here hx rfl (hb hby d4_15) ?_
      exact k)
    obtain ⟨fs, hr, hrun, hended, hW, hsame⟩ := X2.leave (v := some (.int (nar .boolean (0 : Int32)))) (fun h => by rw [Bd.returns] at h; cases h)
    refine ⟨_, _, pre6 _ ?_, hrun, hended, _, _, rfl, ?_, ⟨_, rfl⟩, hW, hsame.mono (by decide) (by decide)⟩
    · show own_S p e below T2 m 16 #[rv a1] [(.int (0 : Int32))] _
      exact retN X2 hx (t := .boolean) Bd.returns (by simp) (hb hby d4_16) hr
    · show Q4 Z a1 p2 p3 h0 n0 _ T2.heap _
      rw [e2]
      exact ⟨by rw [(by decide : nar .boolean (0 : Int32) = (0 : Int32))]; simp [own_end, hc8_3], N0, rfl⟩
def own_val (x : Int32) : Int64 := ((0 : Int64) ||| ((x &&& (127 : Int32)).toInt64 <<< (((7 : Int32) * (0 : Int32)) &&& 0x3f).toInt64))
theorem ef_7 (m : MethodId) (a1 : Addr) : entryFrame m #[(.ref a1)] 6 = mkF m 0 #[rv a1, .unset, .unset, .unset, .unset, .unset] [] := by first | (simp [entryFrame, mkF, argsToLocals, Value.category]; done) | rfl
def Q7 (Z : State) (a1 : Addr) (a2 : Addr) (p3 : Int32) (p4 : Int32) (k : ClassId) (z : Int32) (vs : List Value) (x : Int32) (h0 : Heap) (n0 : Nat) (v : Option Value) (h : Heap) (L : List Loc) : Prop := v = some (.long (own_val x)) ∧ Fr n0 L ∧ Keep h0 h [a1] ∧ Exa Z h a1 "com/example/converge/converge/runtime/WireReader" ∧ Fld Z h a1 "com/example/converge/converge/runtime/WireReader" "_bytes" "[B" (.ref a2) ∧ Fld Z h a1 "com/example/converge/converge/runtime/WireReader" "_position" "I" (.int (p3 + (1 : Int32))) ∧ Fld Z h a1 "com/example/converge/converge/runtime/WireReader" "_end" "I" (.int p4)
theorem d7_0 : decode prog_91_method_5_code 0 = .ok (.lconst 0, 1) := by decide +kernel
theorem d7_1 : decode prog_91_method_5_code 1 = .ok (.lstore_n 1, 1) := by decide +kernel
theorem d7_2 : decode prog_91_method_5_code 2 = .ok (.aload_n 0, 1) := by decide +kernel
theorem d7_3 : decode prog_91_method_5_code 3 = .ok (.getfield 16, 3) := by decide +kernel
theorem d7_6 : decode prog_91_method_5_code 6 = .ok (.istore_n 3, 1) := by decide +kernel
theorem d7_7 : decode prog_91_method_5_code 7 = .ok (.iconst 0, 1) := by decide +kernel
theorem d7_8 : decode prog_91_method_5_code 8 = .ok (.istore 4, 2) := by decide +kernel
theorem d7_10 : decode prog_91_method_5_code 10 = .ok (.iload 4, 2) := by decide +kernel
theorem d7_12 : decode prog_91_method_5_code 12 = .ok (.bipush 10, 2) := by decide +kernel
theorem d7_14 : decode prog_91_method_5_code 14 = .ok (.if_icmp .ge 69, 3) := by decide +kernel
theorem d7_17 : decode prog_91_method_5_code 17 = .ok (.iload_n 3, 1) := by decide +kernel
theorem d7_18 : decode prog_91_method_5_code 18 = .ok (.aload_n 0, 1) := by decide +kernel
theorem d7_19 : decode prog_91_method_5_code 19 = .ok (.getfield 20, 3) := by decide +kernel
theorem d7_22 : decode prog_91_method_5_code 22 = .ok (.if_icmp .ne 17, 3) := by decide +kernel
theorem d7_39 : decode prog_91_method_5_code 39 = .ok (.aload_n 0, 1) := by decide +kernel
theorem d7_40 : decode prog_91_method_5_code 40 = .ok (.getfield 12, 3) := by decide +kernel
theorem d7_43 : decode prog_91_method_5_code 43 = .ok (.iload_n 3, 1) := by decide +kernel
theorem d7_44 : decode prog_91_method_5_code 44 = .ok (.iinc 3 1, 3) := by decide +kernel
theorem d7_47 : decode prog_91_method_5_code 47 = .ok (.baload, 1) := by decide +kernel
theorem d7_48 : decode prog_91_method_5_code 48 = .ok (.istore 5, 2) := by decide +kernel
theorem d7_50 : decode prog_91_method_5_code 50 = .ok (.lload_n 1, 1) := by decide +kernel
theorem d7_51 : decode prog_91_method_5_code 51 = .ok (.iload 5, 2) := by decide +kernel
theorem d7_53 : decode prog_91_method_5_code 53 = .ok (.bipush 127, 2) := by decide +kernel
theorem d7_55 : decode prog_91_method_5_code 55 = .ok (.iand, 1) := by decide +kernel
theorem d7_56 : decode prog_91_method_5_code 56 = .ok (.i2l, 1) := by decide +kernel
theorem d7_57 : decode prog_91_method_5_code 57 = .ok (.bipush 7, 2) := by decide +kernel
theorem d7_59 : decode prog_91_method_5_code 59 = .ok (.iload 4, 2) := by decide +kernel
theorem d7_61 : decode prog_91_method_5_code 61 = .ok (.imul, 1) := by decide +kernel
theorem d7_62 : decode prog_91_method_5_code 62 = .ok (.lshl, 1) := by decide +kernel
theorem d7_63 : decode prog_91_method_5_code 63 = .ok (.lor, 1) := by decide +kernel
theorem d7_64 : decode prog_91_method_5_code 64 = .ok (.lstore_n 1, 1) := by decide +kernel
theorem d7_65 : decode prog_91_method_5_code 65 = .ok (.iload 5, 2) := by decide +kernel
theorem d7_67 : decode prog_91_method_5_code 67 = .ok (.ifCond .lt 10, 3) := by decide +kernel
theorem d7_70 : decode prog_91_method_5_code 70 = .ok (.aload_n 0, 1) := by decide +kernel
theorem d7_71 : decode prog_91_method_5_code 71 = .ok (.iload_n 3, 1) := by decide +kernel
theorem d7_72 : decode prog_91_method_5_code 72 = .ok (.putfield 16, 3) := by decide +kernel
theorem d7_75 : decode prog_91_method_5_code 75 = .ok (.lload_n 1, 1) := by decide +kernel
theorem d7_76 : decode prog_91_method_5_code 76 = .ok (.lreturn, 1) := by decide +kernel
set_option maxRecDepth 65536 in
set_option maxHeartbeats 40000000 in
theorem rm7 (l : Launch) (Z : State) (a0 : Array Value) (hw : ∀ d ∈ tables_1, d.before a0 Z = true) (ws : List Jvm.Cond) (a1 : Addr) (a2 : Addr) (p3 : Int32) (p4 : Int32) (k : ClassId) (z : Int32) (vs : List Value) (x : Int32) (h0 : Heap) (n0 : Nat) (Z0 : n0 ≤ h0.size) (E_a1 : Exa Z h0 a1 "com/example/converge/converge/runtime/WireReader") (g_a1 : n0 ≤ a1) (F_b : Fld Z h0 a1 "com/example/converge/converge/runtime/WireReader" "_bytes" "[B" (.ref a2)) (F_p : Fld Z h0 a1 "com/example/converge/converge/runtime/WireReader" "_position" "I" (.int p3)) (F_e : Fld Z h0 a1 "com/example/converge/converge/runtime/WireReader" "_end" "I" (.int p4)) (V_a2 : Arv Z h0 a2 k .byte z vs (.int (0 : Int32))) (hne : ¬ p3 = p4) (hin : ¬ p3 < 0 ∧ p3 < z) (hat : vs.getD (p3).toNatClampNeg (.int (0 : Int32)) = .int x) (hnn : ¬ x < 0) :
    MetFree l (⟨"com/example/converge/converge/runtime/WireReader", "readVarint", "()J"⟩ : MethodName) (head1 (Jvm.Cond.code (⟨"com/example/converge/converge/runtime/WireReader", "readVarint", "()J"⟩ : MethodName) prog_91_method_5_code 6 (some .long) :: ws) ({ frames := 0, cells := 0, slots := 0, locals := 0 } : Room)) (fun a U => a = #[(.ref a1)] ∧ Z.Warmed39 U.vm ∧ U.heap = h0) (fun _ _ _ _ _ => True) (fun _ U o U' => ∃ v L, o = .returned v ∧ Q7 Z a1 a2 p3 p4 k z vs x h0 n0 v U'.heap L ∧ FrameEnd U o U' L ({ frames := 0, cells := 0, slots := 0, locals := 0 } : Room).cells ({ frames := 0, cells := 0, slots := 0, locals := 0 } : Room).slots) := by
  refine MetFree.of_bodySF (plainFor_of_name pn_0) hisR ?_
  intro p e s m args below meth c s₁ Bd hml0 hP hK
  obtain ⟨rfl, hZ, hh⟩ := hP
  have hx := Bd.exec
  have hby := Bd.bytes
  have hml : c.maxLocals = 6 := hml0
  have hown : s.vm.findClass "com/example/converge/converge/runtime/WireReader" = some m.cls := findClass_of_methodNamed Bd.named
  have hnm := (name_of_methodNamed Bd.named Bd.method).1
  have X0 : Stand p l e ({ frames := 0, cells := 0, slots := 0, locals := 0 } : Room) s m #[(.ref a1)] below meth c s₁ [] 0 0 := Stand.of_body Bd
  have e0 : s₁.heap = h0 := by rw [← hh, Bd.state]; rfl
  have N0 := Fr.nil n0
  have pre0 : ∀ t, Steps p.tables e below (s₁.setTop (mkF m 0 #[rv a1, .unset, .unset, .unset, .unset, .unset] [])) t → Steps p.tables e below (s₁.setTop (entryFrame m #[(.ref a1)] 6)) t := fun t k => castTop (ef_7 m a1) k
  obtain ⟨T1, X1, e1, st1⟩ := getF X0 hx hZ hown (host := "") (Or.inl (hw _ (List.mem_of_getElem? (i := 15) rfl))) Via.refl e0 F_p (g := (mkF m 3 #[rv a1, .val (.long (0 : Int64)), .second, .unset, .unset, .unset] [(.ref a1)])) rfl rfl (hb hby d7_3)
  obtain ⟨T2, X2, e2, st2⟩ := getF X1 hx hZ hown (host := "") (Or.inl (hw _ (List.mem_of_getElem? (i := 17) rfl))) Via.refl e1 F_e (g := (mkF m 19 #[rv a1, .val (.long (0 : Int64)), .second, iv p3, iv (0 : Int32), .unset] [(.ref a1), (.int p3)])) rfl rfl (hb hby d7_19)
  obtain ⟨T3, X3, e3, st3⟩ := getF X2 hx hZ hown (host := "") (Or.inl (hw _ (List.mem_of_getElem? (i := 13) rfl))) Via.refl e2 F_b (g := (mkF m 40 #[rv a1, .val (.long (0 : Int64)), .second, iv p3, iv (0 : Int32), .unset] [(.ref a1)])) rfl rfl (hb hby d7_40)
  obtain ⟨cl4, Ar4, q4, S4, M4, H4, G4⟩ := id V_a2
  have hin4 : ¬ (p3 < 0 ∨ cl4.slots.size ≤ (p3).toNatClampNeg) := inb_of S4 hin
  have hat4 : cl4.slots[(p3).toNatClampNeg]? = some (.int x) := H4.at hin4 hat
  obtain ⟨T5, h5, X5, e5, W5, st5⟩ := putF X3 hx hZ hown (host := "") (Or.inl (hw _ (List.mem_of_getElem? (i := 15) rfl))) Via.refl e3 F_p E_a1 (Or.inl (hw _ (List.mem_of_getElem? (i := 16) rfl))) (hw _ (List.mem_of_getElem? (i := 2) rfl)) (ty := .int) (by decide) rfl rfl (g := (mkF m 72 #[rv a1, .val (.long ((0 : Int64) ||| (((x &&& (127 : Int32)).toInt64) <<< (((7 : Int32) * (0 : Int32)) &&& 0x3f).toInt64))), .second, iv (p3 + (1 : Int32)), iv (0 : Int32), iv x] [(.int (p3 + (1 : Int32))), (.ref a1)])) rfl rfl (hb hby d7_72)
  have Fw5 := F_p.same W5
  have N5 := Fr.snoc X5 N0 g_a1
  have pre6 : ∀ t, own_S p e below T5 m 76 #[rv a1, .val (.long ((0 : Int64) ||| (((x &&& (127 : Int32)).toInt64) <<< (((7 : Int32) * (0 : Int32)) &&& 0x3f).toInt64))), .second, iv (p3 + (1 : Int32)), iv (0 : Int32), iv x] [(.long ((0 : Int64) ||| (((x &&& (127 : Int32)).toInt64) <<< (((7 : Int32) * (0 : Int32)) &&& 0x3f).toInt64)))] t → Steps p.tables e below (s₁.setTop (entryFrame m #[(.ref a1)] 6)) t := fun t k => pre0 t (by
    show own_S p e below s₁ m 0 #[rv a1, .unset, .unset, .unset, .unset, .unset] [] _
    refine XS.lconst X0.here hx rfl (hb hby d7_0) ?_
    show own_S p e below s₁ m 1 #[rv a1, .unset, .unset, .unset, .unset, .unset] [(.long (0 : Int64))] _
    refine XS.lstoreN X0.here hx rfl (hb hby d7_1) rfl (l' := #[rv a1, .val (.long (0 : Int64)), .second, .unset, .unset, .unset]) rfl ?_
    show own_S p e below s₁ m 2 #[rv a1, .val (.long (0 : Int64)), .second, .unset, .unset, .unset] [] _
    refine XS.aloadN X0.here hx rfl (hb hby d7_2) rfl rfl ?_
    show own_S p e below s₁ m 3 #[rv a1, .val (.long (0 : Int64)), .second, .unset, .unset, .unset] [(.ref a1)] _
    refine st1 _ ?_
    show own_S p e below T1 m 6 #[rv a1, .val (.long (0 : Int64)), .second, .unset, .unset, .unset] [(.int p3)] _
    refine XS.istoreN X1.here hx rfl (hb hby d7_6) rfl (l' := #[rv a1, .val (.long (0 : Int64)), .second, iv p3, .unset, .unset]) rfl ?_
    show own_S p e below T1 m 7 #[rv a1, .val (.long (0 : Int64)), .second, iv p3, .unset, .unset] [] _
    refine XS.iconst X1.here hx rfl (hb hby d7_7) ?_
    show own_S p e below T1 m 8 #[rv a1, .val (.long (0 : Int64)), .second, iv p3, .unset, .unset] [(.int (0 : Int32))] _
    refine XS.istore X1.here hx rfl (hb hby d7_8) rfl (l' := #[rv a1, .val (.long (0 : Int64)), .second, iv p3, iv (0 : Int32), .unset]) rfl ?_
    show own_S p e below T1 m 10 #[rv a1, .val (.long (0 : Int64)), .second, iv p3, iv (0 : Int32), .unset] [] _
    refine XS.iload X1.here hx rfl (hb hby d7_10) rfl ?_
    show own_S p e below T1 m 12 #[rv a1, .val (.long (0 : Int64)), .second, iv p3, iv (0 : Int32), .unset] [(.int (0 : Int32))] _
    refine XS.bipush X1.here hx rfl (hb hby d7_12) ?_
    show own_S p e below T1 m 14 #[rv a1, .val (.long (0 : Int64)), .second, iv p3, iv (0 : Int32), .unset] [(.int (10 : Int32)), (.int (0 : Int32))] _
    refine XS.icmpNo X1.here hx rfl (hb hby d7_14) rfl (tlt (by decide : (0 : Int32) < (10 : Int32))).2.1 ?_
    show own_S p e below T1 m 17 #[rv a1, .val (.long (0 : Int64)), .second, iv p3, iv (0 : Int32), .unset] [] _
    refine XS.iloadN X1.here hx rfl (hb hby d7_17) rfl ?_
    show own_S p e below T1 m 18 #[rv a1, .val (.long (0 : Int64)), .second, iv p3, iv (0 : Int32), .unset] [(.int p3)] _
    refine XS.aloadN X1.here hx rfl (hb hby d7_18) rfl rfl ?_
    show own_S p e below T1 m 19 #[rv a1, .val (.long (0 : Int64)), .second, iv p3, iv (0 : Int32), .unset] [(.ref a1), (.int p3)] _
    refine st2 _ ?_
    show own_S p e below T2 m 22 #[rv a1, .val (.long (0 : Int64)), .second, iv p3, iv (0 : Int32), .unset] [(.int p4), (.int p3)] _
    refine XS.icmpYes X2.here hx rfl (pc0 := 22) (pc' := 39) rfl (hb hby d7_22) rfl (feq hne).2 (by decide) (by decide) ?_
    show own_S p e below T2 m 39 #[rv a1, .val (.long (0 : Int64)), .second, iv p3, iv (0 : Int32), .unset] [] _
    refine XS.aloadN X2.here hx rfl (hb hby d7_39) rfl rfl ?_
    show own_S p e below T2 m 40 #[rv a1, .val (.long (0 : Int64)), .second, iv p3, iv (0 : Int32), .unset] [(.ref a1)] _
    refine st3 _ ?_
    show own_S p e below T3 m 43 #[rv a1, .val (.long (0 : Int64)), .second, iv p3, iv (0 : Int32), .unset] [(.ref a2)] _
    refine XS.iloadN X3.here hx rfl (hb hby d7_43) rfl ?_
    show own_S p e below T3 m 44 #[rv a1, .val (.long (0 : Int64)), .second, iv p3, iv (0 : Int32), .unset] [(.int p3), (.ref a2)] _
    refine XS.iinc X3.here hx rfl (hb hby d7_44) rfl (l' := #[rv a1, .val (.long (0 : Int64)), .second, iv (p3 + (1 : Int32)), iv (0 : Int32), .unset]) rfl ?_
    show own_S p e below T3 m 47 #[rv a1, .val (.long (0 : Int64)), .second, iv (p3 + (1 : Int32)), iv (0 : Int32), .unset] [(.int p3), (.ref a2)] _
    refine X3.baloadBytes hx (j := p3) (v := (.int x)) (by rw [e3]; exact Ar4.1) (State.isArrayOf_alike hZ.alike Ar4.2.1) Ar4.2.2 hin4 hat4 (g := (mkF m 47 #[rv a1, .val (.long (0 : Int64)), .second, iv (p3 + (1 : Int32)), iv (0 : Int32), .unset] [(.int p3), (.ref a2)])) rfl rfl (hb hby d7_47) _ ?_
    show own_S p e below T3 m 48 #[rv a1, .val (.long (0 : Int64)), .second, iv (p3 + (1 : Int32)), iv (0 : Int32), .unset] [(.int x)] _
    refine XS.istore X3.here hx rfl (hb hby d7_48) rfl (l' := #[rv a1, .val (.long (0 : Int64)), .second, iv (p3 + (1 : Int32)), iv (0 : Int32), iv x]) rfl ?_
    show own_S p e below T3 m 50 #[rv a1, .val (.long (0 : Int64)), .second, iv (p3 + (1 : Int32)), iv (0 : Int32), iv x] [] _
    refine XS.lloadN X3.here hx rfl (hb hby d7_50) rfl ?_
    show own_S p e below T3 m 51 #[rv a1, .val (.long (0 : Int64)), .second, iv (p3 + (1 : Int32)), iv (0 : Int32), iv x] [(.long (0 : Int64))] _
    refine XS.iload X3.here hx rfl (hb hby d7_51) rfl ?_
    show own_S p e below T3 m 53 #[rv a1, .val (.long (0 : Int64)), .second, iv (p3 + (1 : Int32)), iv (0 : Int32), iv x] [(.int x), (.long (0 : Int64))] _
    refine XS.bipush X3.here hx rfl (hb hby d7_53) ?_
    show own_S p e below T3 m 55 #[rv a1, .val (.long (0 : Int64)), .second, iv (p3 + (1 : Int32)), iv (0 : Int32), iv x] [(.int (127 : Int32)), (.int x), (.long (0 : Int64))] _
    refine XS.iand X3.here hx rfl (hb hby d7_55) rfl ?_
    show own_S p e below T3 m 56 #[rv a1, .val (.long (0 : Int64)), .second, iv (p3 + (1 : Int32)), iv (0 : Int32), iv x] [(.int (x &&& (127 : Int32))), (.long (0 : Int64))] _
    refine XS.i2l X3.here hx rfl (hb hby d7_56) rfl ?_
    show own_S p e below T3 m 57 #[rv a1, .val (.long (0 : Int64)), .second, iv (p3 + (1 : Int32)), iv (0 : Int32), iv x] [(.long ((x &&& (127 : Int32)).toInt64)), (.long (0 : Int64))] _
    refine XS.bipush X3.here hx rfl (hb hby d7_57) ?_
    show own_S p e below T3 m 59 #[rv a1, .val (.long (0 : Int64)), .second, iv (p3 + (1 : Int32)), iv (0 : Int32), iv x] [(.int (7 : Int32)), (.long ((x &&& (127 : Int32)).toInt64)), (.long (0 : Int64))] _
    refine XS.iload X3.here hx rfl (hb hby d7_59) rfl ?_
    show own_S p e below T3 m 61 #[rv a1, .val (.long (0 : Int64)), .second, iv (p3 + (1 : Int32)), iv (0 : Int32), iv x] [(.int (0 : Int32)), (.int (7 : Int32)), (.long ((x &&& (127 : Int32)).toInt64)), (.long (0 : Int64))] _
    refine XS.imul X3.here hx rfl (hb hby d7_61) rfl ?_
    show own_S p e below T3 m 62 #[rv a1, .val (.long (0 : Int64)), .second, iv (p3 + (1 : Int32)), iv (0 : Int32), iv x] [(.int ((7 : Int32) * (0 : Int32))), (.long ((x &&& (127 : Int32)).toInt64)), (.long (0 : Int64))] _
    refine XS.lshl X3.here hx rfl (hb hby d7_62) rfl ?_
    show own_S p e below T3 m 63 #[rv a1, .val (.long (0 : Int64)), .second, iv (p3 + (1 : Int32)), iv (0 : Int32), iv x] [(.long (((x &&& (127 : Int32)).toInt64) <<< (((7 : Int32) * (0 : Int32)) &&& 0x3f).toInt64)), (.long (0 : Int64))] _
    refine XS.lor X3.here hx rfl (hb hby d7_63) rfl ?_
    show own_S p e below T3 m 64 #[rv a1, .val (.long (0 : Int64)), .second, iv (p3 + (1 : Int32)), iv (0 : Int32), iv x] [(.long ((0 : Int64) ||| (((x &&& (127 : Int32)).toInt64) <<< (((7 : Int32) * (0 : Int32)) &&& 0x3f).toInt64)))] _
    refine XS.lstoreN X3.here hx rfl (hb hby d7_64) rfl (l' := #[rv a1, .val (.long ((0 : Int64) ||| (((x &&& (127 : Int32)).toInt64) <<< (((7 : Int32) * (0 : Int32)) &&& 0x3f).toInt64))), .second, iv (p3 + (1 : Int32)), iv (0 : Int32), iv x]) rfl ?_
    show own_S p e below T3 m 65 #[rv a1, .val (.long ((0 : Int64) ||| (((x &&& (127 : Int32)).toInt64) <<< (((7 : Int32) * (0 : Int32)) &&& 0x3f).toInt64))), .second, iv (p3 + (1 : Int32)), iv (0 : Int32), iv x] [] _
    refine XS.iload X3.here hx rfl (hb hby d7_65) rfl ?_
    show own_S p e below T3 m 67 #[rv a1, .val (.long ((0 : Int64) ||| (((x &&& (127 : Int32)).toInt64) <<< (((7 : Int32) * (0 : Int32)) &&& 0x3f).toInt64))), .second, iv (p3 + (1 : Int32)), iv (0 : Int32), iv x] [(.int x)] _
    refine XS.ifNo X3.here hx rfl (hb hby d7_67) rfl ((if0 _ _).trans (flt hnn).1) ?_
    show own_S p e below T3 m 70 #[rv a1, .val (.long ((0 : Int64) ||| (((x &&& (127 : Int32)).toInt64) <<< (((7 : Int32) * (0 : Int32)) &&& 0x3f).toInt64))), .second, iv (p3 + (1 : Int32)), iv (0 : Int32), iv x] [] _
    refine XS.aloadN X3.here hx rfl (hb hby d7_70) rfl rfl ?_
    show own_S p e below T3 m 71 #[rv a1, .val (.long ((0 : Int64) ||| (((x &&& (127 : Int32)).toInt64) <<< (((7 : Int32) * (0 : Int32)) &&& 0x3f).toInt64))), .second, iv (p3 + (1 : Int32)), iv (0 : Int32), iv x] [(.ref a1)] _
    refine XS.iloadN X3.here hx rfl (hb hby d7_71) rfl ?_
    show own_S p e below T3 m 72 #[rv a1, .val (.long ((0 : Int64) ||| (((x &&& (127 : Int32)).toInt64) <<< (((7 : Int32) * (0 : Int32)) &&& 0x3f).toInt64))), .second, iv (p3 + (1 : Int32)), iv (0 : Int32), iv x] [(.int (p3 + (1 : Int32))), (.ref a1)] _
    refine st5 _ ?_
    show own_S p e below T5 m 75 #[rv a1, .val (.long ((0 : Int64) ||| (((x &&& (127 : Int32)).toInt64) <<< (((7 : Int32) * (0 : Int32)) &&& 0x3f).toInt64))), .second, iv (p3 + (1 : Int32)), iv (0 : Int32), iv x] [] _
    refine XS.lloadN X5.here hx rfl (hb hby d7_75) rfl ?_
    exact k)
  obtain ⟨fs, hr, hrun, hended, hW, hsame⟩ := X5.leave (v := some (.long ((0 : Int64) ||| (((x &&& (127 : Int32)).toInt64) <<< (((7 : Int32) * (0 : Int32)) &&& 0x3f).toInt64)))) (fun h => by rw [Bd.returns] at h; cases h)
  refine ⟨_, _, pre6 _ ?_, hrun, hended, _, _, rfl, ?_, ⟨_, rfl⟩, hW, hsame.mono (by decide) (by decide)⟩
  · show own_S p e below T5 m 76 #[rv a1, .val (.long ((0 : Int64) ||| (((x &&& (127 : Int32)).toInt64) <<< (((7 : Int32) * (0 : Int32)) &&& 0x3f).toInt64))), .second, iv (p3 + (1 : Int32)), iv (0 : Int32), iv x] [(.long ((0 : Int64) ||| (((x &&& (127 : Int32)).toInt64) <<< (((7 : Int32) * (0 : Int32)) &&& 0x3f).toInt64)))] _
    exact retOut X5 hx (t := .long) Bd.returns rfl (Or.inr (Or.inl ⟨rfl, rfl, _, rfl⟩)) (hb hby d7_76) hr
  · show Q7 Z a1 a2 p3 p4 k z vs x h0 n0 _ T5.heap _
    rw [e5]
    have En_7 := (E_a1.wr W5)
    have Fn_8 := (F_b.other W5 (Or.inr (slot_ne (Or.inr (hw _ (List.mem_of_getElem? (i := 14) rfl))) (Or.inl (hw _ (List.mem_of_getElem? (i := 16) rfl))) (by decide) (t := (.array .byte)) (t' := .int) (by decide) (by decide))))
    have Fn_9 := (F_e.other W5 (Or.inr (slot_ne (Or.inr (hw _ (List.mem_of_getElem? (i := 18) rfl))) (Or.inl (hw _ (List.mem_of_getElem? (i := 16) rfl))) (by decide) (t := .int) (t' := .int) (by decide) (by decide))))
    exact ⟨rfl, N5, ((Keep.refl h0 [a1]).wr W5 (Or.inl (List.mem_of_getElem? (i := 0) rfl))), En_7, Fn_8, Fw5, Fn_9⟩
theorem ef_6 (m : MethodId) (a1 : Addr) : entryFrame m #[(.ref a1)] 4 = mkF m 0 #[rv a1, .unset, .unset, .unset] [] := by first | (simp [entryFrame, mkF, argsToLocals, Value.category]; done) | rfl
def Q6 (Z : State) (a1 : Addr) (a2 : Addr) (p3 : Int32) (p4 : Int32) (k : ClassId) (z : Int32) (vs : List Value) (x : Int32) (h0 : Heap) (n0 : Nat) (v : Option Value) (h : Heap) (L : List Loc) : Prop := v = some (.int (own_val x).toInt32) ∧ Fr n0 L ∧ Keep h0 h [a1] ∧ Exa Z h a1 "com/example/converge/converge/runtime/WireReader" ∧ Fld Z h a1 "com/example/converge/converge/runtime/WireReader" "_bytes" "[B" (.ref a2) ∧ Fld Z h a1 "com/example/converge/converge/runtime/WireReader" "_position" "I" (.int (p3 + (1 : Int32))) ∧ Fld Z h a1 "com/example/converge/converge/runtime/WireReader" "_end" "I" (.int p4)
theorem d6_0 : decode prog_91_method_13_code 0 = .ok (.aload_n 0, 1) := by decide +kernel
theorem d6_1 : decode prog_91_method_13_code 1 = .ok (.getfield 16, 3) := by decide +kernel
theorem d6_4 : decode prog_91_method_13_code 4 = .ok (.istore_n 1, 1) := by decide +kernel
theorem d6_5 : decode prog_91_method_13_code 5 = .ok (.aload_n 0, 1) := by decide +kernel
theorem d6_6 : decode prog_91_method_13_code 6 = .ok (.invokevirtual 32, 3) := by decide +kernel
theorem pd_1 : parseMethodDescriptor "()J" = some ⟨[], some .long⟩ := by decide +kernel
theorem d6_9 : decode prog_91_method_13_code 9 = .ok (.lstore_n 2, 1) := by decide +kernel
theorem d6_10 : decode prog_91_method_13_code 10 = .ok (.lload_n 2, 1) := by decide +kernel
theorem d6_11 : decode prog_91_method_13_code 11 = .ok (.lconst 0, 1) := by decide +kernel
theorem d6_12 : decode prog_91_method_13_code 12 = .ok (.lcmp, 1) := by decide +kernel
theorem d6_13 : decode prog_91_method_13_code 13 = .ok (.ifCond .lt 18, 3) := by decide +kernel
theorem d6_16 : decode prog_91_method_13_code 16 = .ok (.lload_n 2, 1) := by decide +kernel
theorem d6_17 : decode prog_91_method_13_code 17 = .ok (.aload_n 0, 1) := by decide +kernel
theorem d6_18 : decode prog_91_method_13_code 18 = .ok (.getfield 20, 3) := by decide +kernel
theorem d6_21 : decode prog_91_method_13_code 21 = .ok (.aload_n 0, 1) := by decide +kernel
theorem d6_22 : decode prog_91_method_13_code 22 = .ok (.getfield 16, 3) := by decide +kernel
theorem d6_25 : decode prog_91_method_13_code 25 = .ok (.isub, 1) := by decide +kernel
theorem d6_26 : decode prog_91_method_13_code 26 = .ok (.i2l, 1) := by decide +kernel
theorem d6_27 : decode prog_91_method_13_code 27 = .ok (.lcmp, 1) := by decide +kernel
theorem d6_28 : decode prog_91_method_13_code 28 = .ok (.ifCond .le 26, 3) := by decide +kernel
theorem d6_54 : decode prog_91_method_13_code 54 = .ok (.lload_n 2, 1) := by decide +kernel
theorem d6_55 : decode prog_91_method_13_code 55 = .ok (.l2i, 1) := by decide +kernel
theorem d6_56 : decode prog_91_method_13_code 56 = .ok (.ireturn, 1) := by decide +kernel
set_option maxRecDepth 65536 in
set_option maxHeartbeats 40000000 in
theorem rm6 (l : Launch) (Z : State) (a0 : Array Value) (hw : ∀ d ∈ tables_1, d.before a0 Z = true) (ws : List Jvm.Cond) (a1 : Addr) (a2 : Addr) (p3 : Int32) (p4 : Int32) (k : ClassId) (z : Int32) (vs : List Value) (x : Int32) (h0 : Heap) (n0 : Nat) (Z0 : n0 ≤ h0.size) (E_a1 : Exa Z h0 a1 "com/example/converge/converge/runtime/WireReader") (g_a1 : n0 ≤ a1) (F_b : Fld Z h0 a1 "com/example/converge/converge/runtime/WireReader" "_bytes" "[B" (.ref a2)) (F_p : Fld Z h0 a1 "com/example/converge/converge/runtime/WireReader" "_position" "I" (.int p3)) (F_e : Fld Z h0 a1 "com/example/converge/converge/runtime/WireReader" "_end" "I" (.int p4)) (V_a2 : Arv Z h0 a2 k .byte z vs (.int (0 : Int32))) (hne : ¬ p3 = p4) (hin : ¬ p3 < 0 ∧ p3 < z) (hat : vs.getD (p3).toNatClampNeg (.int (0 : Int32)) = .int x) (hnn : ¬ x < 0) (ne21 : a2 ≠ a1) (hv0 : ¬ own_val x < (0 : Int64)) (hv1 : ¬ ((p4 - (p3 + (1 : Int32))).toInt64) < own_val x) :
    MetFree l (⟨"com/example/converge/converge/runtime/WireReader", "readLength", "()I"⟩ : MethodName) (head1 (Jvm.Cond.code (⟨"com/example/converge/converge/runtime/WireReader", "readLength", "()I"⟩ : MethodName) prog_91_method_13_code 4 (some .int) :: ws) ({ frames := 1, cells := 0, slots := 0, locals := 17 } : Room)) (fun a U => a = #[(.ref a1)] ∧ Z.Warmed39 U.vm ∧ U.heap = h0) (fun _ _ _ _ _ => True) (fun _ U o U' => ∃ v L, o = .returned v ∧ Q6 Z a1 a2 p3 p4 k z vs x h0 n0 v U'.heap L ∧ FrameEnd U o U' L ({ frames := 1, cells := 0, slots := 0, locals := 17 } : Room).cells ({ frames := 1, cells := 0, slots := 0, locals := 17 } : Room).slots) := by
  refine MetFree.of_bodySF (plainFor_of_name pn_0) hisR ?_
  intro p e s m args below meth c s₁ Bd hml0 hP hK
  obtain ⟨rfl, hZ, hh⟩ := hP
  have hx := Bd.exec
  have hby := Bd.bytes
  have hml : c.maxLocals = 4 := hml0
  have hown : s.vm.findClass "com/example/converge/converge/runtime/WireReader" = some m.cls := findClass_of_methodNamed Bd.named
  have hnm := (name_of_methodNamed Bd.named Bd.method).1
  have X0 : Stand p l e ({ frames := 1, cells := 0, slots := 0, locals := 17 } : Room) s m #[(.ref a1)] below meth c s₁ [] 0 0 := Stand.of_body Bd
  have e0 : s₁.heap = h0 := by rw [← hh, Bd.state]; rfl
  have N0 := Fr.nil n0
  have pre0 : ∀ t, Steps p.tables e below (s₁.setTop (mkF m 0 #[rv a1, .unset, .unset, .unset] [])) t → Steps p.tables e below (s₁.setTop (entryFrame m #[(.ref a1)] 4)) t := fun t k => castTop (ef_6 m a1) k
  obtain ⟨T1, X1, e1, st1⟩ := getF X0 hx hZ hown (host := "") (Or.inl (hw _ (List.mem_of_getElem? (i := 15) rfl))) Via.refl e0 F_p (g := (mkF m 1 #[rv a1, .unset, .unset, .unset] [(.ref a1)])) rfl rfl (hb hby d6_1)
  obtain ⟨cq2, kq2, q2a, q2b, q2c⟩ := isOf hZ e1 E_a1
  obtain ⟨_, _, ⟨T2, L2, k2, n2⟩, -, X2, ⟨Lc2, hQ2, l2, y2, z2⟩, st2⟩ := X1.virtualBack hx (y := (⟨"com/example/converge/converge/runtime/WireReader", "readVarint", "()J"⟩ : MethodName)) (z := (⟨"com/example/converge/converge/runtime/WireReader", "readVarint", "()J"⟩ : MethodName)) hown (mvT hZ (hw _ (List.mem_of_getElem? (i := 33) rfl))) (mvT hZ (hw _ (List.mem_of_getElem? (i := 34) rfl))) (notFace_of_selects (args := #[]) (mvT hZ (hw _ (List.mem_of_getElem? (i := 36) rfl)))) (mvT hZ (hw _ (List.mem_of_getElem? (i := 36) rfl))) (mvT hZ (hw _ (List.mem_of_getElem? (i := 35) rfl))) (by decide) (backOf (W := 0) (rm7 l Z a0 hw [] a1 a2 p3 p4 k z vs x h0 n0 Z0 E_a1 g_a1 F_b F_p F_e V_a2 hne hin hat hnn) hZ (hw _ (List.mem_of_getElem? (i := 37) rfl)) (hw _ (List.mem_of_getElem? (i := 3) rfl)) (by decide) (by decide)) q2a q2c (g := (mkF m 6 #[rv a1, iv p3, .unset, .unset] [(.ref a1)])) rfl (by rw [hml]; rfl) (Steps.refl _) (argsL := []) (rest := []) (lenOf pd_1 rfl) rfl (by show 2 * 0 + _ ≤ _; exact Nat.le_of_eq rfl) (hb hby d6_6) (fun _ _ => ⟨rfl, e1, (by decide : 0 + 0 ≤ _), (by decide : 0 + 0 ≤ _)⟩)
  dsimp only [Pt.U, Pt.locs, Pt.cells, Pt.slots] at X2 l2 y2 z2 st2 hQ2
  subst l2 y2 z2
  obtain ⟨rfl, N2q, K2, E2c, Fb2, Fp2, Fe2⟩ := hQ2
  have N2 := Fr.app N0 N2q
  obtain ⟨T3, X3, e3, st3⟩ := getF X2 hx hZ hown (host := "") (Or.inl (hw _ (List.mem_of_getElem? (i := 17) rfl))) Via.refl rfl Fe2 (g := (mkF m 18 #[rv a1, iv p3, .val (.long (own_val x)), .second] [(.ref a1), (.long (own_val x))])) rfl rfl (hb hby d6_18)
  obtain ⟨T4, X4, e4, st4⟩ := getF X3 hx hZ hown (host := "") (Or.inl (hw _ (List.mem_of_getElem? (i := 15) rfl))) Via.refl e3 Fp2 (g := (mkF m 22 #[rv a1, iv p3, .val (.long (own_val x)), .second] [(.ref a1), (.int p4), (.long (own_val x))])) rfl rfl (hb hby d6_22)
  have pre5 : ∀ t, own_S p e below T4 m 56 #[rv a1, iv p3, .val (.long (own_val x)), .second] [(.int ((own_val x).toInt32))] t → Steps p.tables e below (s₁.setTop (entryFrame m #[(.ref a1)] 4)) t := fun t k => pre0 t (by
    show own_S p e below s₁ m 0 #[rv a1, .unset, .unset, .unset] [] _
    refine XS.aloadN X0.here hx rfl (hb hby d6_0) rfl rfl ?_
    show own_S p e below s₁ m 1 #[rv a1, .unset, .unset, .unset] [(.ref a1)] _
    refine st1 _ ?_
    show own_S p e below T1 m 4 #[rv a1, .unset, .unset, .unset] [(.int p3)] _
    refine XS.istoreN X1.here hx rfl (hb hby d6_4) rfl (l' := #[rv a1, iv p3, .unset, .unset]) rfl ?_
    show own_S p e below T1 m 5 #[rv a1, iv p3, .unset, .unset] [] _
    refine XS.aloadN X1.here hx rfl (hb hby d6_5) rfl rfl ?_
    show own_S p e below T1 m 6 #[rv a1, iv p3, .unset, .unset] [(.ref a1)] _
    refine st2.trans ?_
    show own_S p e below T2 m 9 #[rv a1, iv p3, .unset, .unset] [(.long (own_val x))] _
    refine XS.lstoreN X2.here hx rfl (hb hby d6_9) rfl (l' := #[rv a1, iv p3, .val (.long (own_val x)), .second]) rfl ?_
    show own_S p e below T2 m 10 #[rv a1, iv p3, .val (.long (own_val x)), .second] [] _
    refine XS.lloadN X2.here hx rfl (hb hby d6_10) rfl ?_
    show own_S p e below T2 m 11 #[rv a1, iv p3, .val (.long (own_val x)), .second] [(.long (own_val x))] _
    refine XS.lconst X2.here hx rfl (hb hby d6_11) ?_
    show own_S p e below T2 m 12 #[rv a1, iv p3, .val (.long (own_val x)), .second] [(.long (0 : Int64)), (.long (own_val x))] _
    refine XS.lcmp X2.here hx rfl (hb hby d6_12) rfl ?_
    show own_S p e below T2 m 13 #[rv a1, iv p3, .val (.long (own_val x)), .second] [(.int (lcmpW (own_val x) (0 : Int64)))] _
    refine XS.ifNo X2.here hx rfl (hb hby d6_13) rfl ((if0 _ _).trans (flt (fun q => hv0 ((lw_lt _ _).mp q))).1) ?_
    show own_S p e below T2 m 16 #[rv a1, iv p3, .val (.long (own_val x)), .second] [] _
    refine XS.lloadN X2.here hx rfl (hb hby d6_16) rfl ?_
    show own_S p e below T2 m 17 #[rv a1, iv p3, .val (.long (own_val x)), .second] [(.long (own_val x))] _
    refine XS.aloadN X2.here hx rfl (hb hby d6_17) rfl rfl ?_
    show own_S p e below T2 m 18 #[rv a1, iv p3, .val (.long (own_val x)), .second] [(.ref a1), (.long (own_val x))] _
    refine st3 _ ?_
    show own_S p e below T3 m 21 #[rv a1, iv p3, .val (.long (own_val x)), .second] [(.int p4), (.long (own_val x))] _
    refine XS.aloadN X3.here hx rfl (hb hby d6_21) rfl rfl ?_
    show own_S p e below T3 m 22 #[rv a1, iv p3, .val (.long (own_val x)), .second] [(.ref a1), (.int p4), (.long (own_val x))] _
    refine st4 _ ?_
    show own_S p e below T4 m 25 #[rv a1, iv p3, .val (.long (own_val x)), .second] [(.int (p3 + (1 : Int32))), (.int p4), (.long (own_val x))] _
    refine XS.isub X4.here hx rfl (hb hby d6_25) rfl ?_
    show own_S p e below T4 m 26 #[rv a1, iv p3, .val (.long (own_val x)), .second] [(.int (p4 - (p3 + (1 : Int32)))), (.long (own_val x))] _
    refine XS.i2l X4.here hx rfl (hb hby d6_26) rfl ?_
    show own_S p e below T4 m 27 #[rv a1, iv p3, .val (.long (own_val x)), .second] [(.long ((p4 - (p3 + (1 : Int32))).toInt64)), (.long (own_val x))] _
    refine XS.lcmp X4.here hx rfl (hb hby d6_27) rfl ?_
    show own_S p e below T4 m 28 #[rv a1, iv p3, .val (.long (own_val x)), .second] [(.int (lcmpW (own_val x) ((p4 - (p3 + (1 : Int32))).toInt64)))] _
    refine XS.ifYes X4.here hx rfl (pc0 := 28) (pc' := 54) rfl (hb hby d6_28) rfl ((if0 _ _).trans (flt (fun q => hv1 ((lw_gt _ _).mp q))).2.2.2) (by decide) (by decide) ?_
    show own_S p e below T4 m 54 #[rv a1, iv p3, .val (.long (own_val x)), .second] [] _
    refine XS.lloadN X4.here hx rfl (hb hby d6_54) rfl ?_
    show own_S p e below T4 m 55 #[rv a1, iv p3, .val (.long (own_val x)), .second] [(.long (own_val x))] _
    refine XS.l2i X4.here hx rfl (hb hby d6_55) rfl ?_
    exact k)
  obtain ⟨fs, hr, hrun, hended, hW, hsame⟩ := X4.leave (v := some (.int ((own_val x).toInt32))) (fun h => by rw [Bd.returns] at h; cases h)
  refine ⟨_, _, pre5 _ ?_, hrun, hended, _, _, rfl, ?_, ⟨_, rfl⟩, hW, hsame.mono (by decide) (by decide)⟩
  · show own_S p e below T4 m 56 #[rv a1, iv p3, .val (.long (own_val x)), .second] [(.int ((own_val x).toInt32))] _
    exact retI X4 hx Bd.returns (hb hby d6_56) hr
  · show Q6 Z a1 a2 p3 p4 k z vs x h0 n0 _ T4.heap _
    rw [e4]
    exact ⟨rfl, N2, ((Keep.refl h0 [a1]).trans K2 (allS (Or.inl (List.mem_of_getElem? (i := 0) rfl)) all0)), E2c, Fb2, Fp2, Fe2⟩
theorem ef_5 (m : MethodId) (a1 : Addr) : entryFrame m #[(.ref a1)] 3 = mkF m 0 #[rv a1, .unset, .unset] [] := by first | (simp [entryFrame, mkF, argsToLocals, Value.category]; done) | rfl
def Q5 (Z : State) (a1 : Addr) (a2 : Addr) (p3 : Int32) (p4 : Int32) (k : ClassId) (z : Int32) (vs : List Value) (x : Int32) (h0 : Heap) (n0 : Nat) (v : Option Value) (h : Heap) (L : List Loc) : Prop := ∃ b : Addr, v = some (.ref b) ∧ Fr n0 L ∧ Keep h0 h [a1] ∧ Exa Z h a1 "com/example/converge/converge/runtime/WireReader" ∧ Fld Z h a1 "com/example/converge/converge/runtime/WireReader" "_bytes" "[B" (.ref a2) ∧ Fld Z h a1 "com/example/converge/converge/runtime/WireReader" "_position" "I" (.int ((p3 + (1 : Int32)) + (own_val x).toInt32)) ∧ Fld Z h a1 "com/example/converge/converge/runtime/WireReader" "_end" "I" (.int p4) ∧ n0 ≤ b ∧ h0.size ≤ b ∧ Exa Z h b "com/example/converge/converge/runtime/WireReader" ∧ Fld Z h b "com/example/converge/converge/runtime/WireReader" "_bytes" "[B" (.ref a2) ∧ Fld Z h b "com/example/converge/converge/runtime/WireReader" "_position" "I" (.int (p3 + (1 : Int32))) ∧ Fld Z h b "com/example/converge/converge/runtime/WireReader" "_end" "I" (.int ((p3 + (1 : Int32)) + (own_val x).toInt32))
theorem d5_0 : decode prog_91_method_12_code 0 = .ok (.aload_n 0, 1) := by decide +kernel
theorem d5_1 : decode prog_91_method_12_code 1 = .ok (.invokevirtual 62, 3) := by decide +kernel
theorem pd_2 : parseMethodDescriptor "()I" = some ⟨[], some .int⟩ := by decide +kernel
theorem d5_4 : decode prog_91_method_12_code 4 = .ok (.istore_n 1, 1) := by decide +kernel
theorem d5_5 : decode prog_91_method_12_code 5 = .ok (.new 2, 3) := by decide +kernel
theorem d5_8 : decode prog_91_method_12_code 8 = .ok (.dup, 1) := by decide +kernel
theorem d5_9 : decode prog_91_method_12_code 9 = .ok (.aload_n 0, 1) := by decide +kernel
theorem d5_10 : decode prog_91_method_12_code 10 = .ok (.getfield 12, 3) := by decide +kernel
theorem d5_13 : decode prog_91_method_12_code 13 = .ok (.aload_n 0, 1) := by decide +kernel
theorem d5_14 : decode prog_91_method_12_code 14 = .ok (.getfield 16, 3) := by decide +kernel
theorem d5_17 : decode prog_91_method_12_code 17 = .ok (.aload_n 0, 1) := by decide +kernel
theorem d5_18 : decode prog_91_method_12_code 18 = .ok (.getfield 16, 3) := by decide +kernel
theorem d5_21 : decode prog_91_method_12_code 21 = .ok (.iload_n 1, 1) := by decide +kernel
theorem d5_22 : decode prog_91_method_12_code 22 = .ok (.iadd, 1) := by decide +kernel
theorem d5_23 : decode prog_91_method_12_code 23 = .ok (.invokespecial 1, 3) := by decide +kernel
theorem d5_26 : decode prog_91_method_12_code 26 = .ok (.astore_n 2, 1) := by decide +kernel
theorem d5_27 : decode prog_91_method_12_code 27 = .ok (.aload_n 0, 1) := by decide +kernel
theorem d5_28 : decode prog_91_method_12_code 28 = .ok (.dup, 1) := by decide +kernel
theorem d5_29 : decode prog_91_method_12_code 29 = .ok (.getfield 16, 3) := by decide +kernel
theorem d5_32 : decode prog_91_method_12_code 32 = .ok (.iload_n 1, 1) := by decide +kernel
theorem d5_33 : decode prog_91_method_12_code 33 = .ok (.iadd, 1) := by decide +kernel
theorem d5_34 : decode prog_91_method_12_code 34 = .ok (.putfield 16, 3) := by decide +kernel
theorem d5_37 : decode prog_91_method_12_code 37 = .ok (.aload_n 2, 1) := by decide +kernel
theorem d5_38 : decode prog_91_method_12_code 38 = .ok (.areturn, 1) := by decide +kernel
set_option maxRecDepth 65536 in
set_option maxHeartbeats 40000000 in
theorem rm5 (l : Launch) (Z : State) (a0 : Array Value) (hw : ∀ d ∈ tables_1, d.before a0 Z = true) (ws : List Jvm.Cond) (a1 : Addr) (a2 : Addr) (p3 : Int32) (p4 : Int32) (k : ClassId) (z : Int32) (vs : List Value) (x : Int32) (h0 : Heap) (n0 : Nat) (Z0 : n0 ≤ h0.size) (E_a1 : Exa Z h0 a1 "com/example/converge/converge/runtime/WireReader") (g_a1 : n0 ≤ a1) (F_b : Fld Z h0 a1 "com/example/converge/converge/runtime/WireReader" "_bytes" "[B" (.ref a2)) (F_p : Fld Z h0 a1 "com/example/converge/converge/runtime/WireReader" "_position" "I" (.int p3)) (F_e : Fld Z h0 a1 "com/example/converge/converge/runtime/WireReader" "_end" "I" (.int p4)) (V_a2 : Arv Z h0 a2 k .byte z vs (.int (0 : Int32))) (hne : ¬ p3 = p4) (hin : ¬ p3 < 0 ∧ p3 < z) (hat : vs.getD (p3).toNatClampNeg (.int (0 : Int32)) = .int x) (hnn : ¬ x < 0) (ne21 : a2 ≠ a1) (hv0 : ¬ own_val x < (0 : Int64)) (hv1 : ¬ ((p4 - (p3 + (1 : Int32))).toInt64) < own_val x) :
    MetFree l (⟨"com/example/converge/converge/runtime/WireReader", "readEmbedded", "()Lcom/example/converge/converge/runtime/WireReader;"⟩ : MethodName) (head1 (Jvm.Cond.code (⟨"com/example/converge/converge/runtime/WireReader", "readEmbedded", "()Lcom/example/converge/converge/runtime/WireReader;"⟩ : MethodName) prog_91_method_12_code 3 (some (.object "com/example/converge/converge/runtime/WireReader")) :: ws) ({ frames := 2, cells := 1, slots := 3, locals := 64 } : Room)) (fun a U => a = #[(.ref a1)] ∧ Z.Warmed39 U.vm ∧ U.heap = h0) (fun _ _ _ _ _ => True) (fun _ U o U' => ∃ v L, o = .returned v ∧ Q5 Z a1 a2 p3 p4 k z vs x h0 n0 v U'.heap L ∧ FrameEnd U o U' L ({ frames := 2, cells := 1, slots := 3, locals := 64 } : Room).cells ({ frames := 2, cells := 1, slots := 3, locals := 64 } : Room).slots) := by
  refine MetFree.of_bodySF (plainFor_of_name pn_0) hisR ?_
  intro p e s m args below meth c s₁ Bd hml0 hP hK
  obtain ⟨rfl, hZ, hh⟩ := hP
  have hx := Bd.exec
  have hby := Bd.bytes
  have hml : c.maxLocals = 3 := hml0
  have hown : s.vm.findClass "com/example/converge/converge/runtime/WireReader" = some m.cls := findClass_of_methodNamed Bd.named
  have hnm := (name_of_methodNamed Bd.named Bd.method).1
  have X0 : Stand p l e ({ frames := 2, cells := 1, slots := 3, locals := 64 } : Room) s m #[(.ref a1)] below meth c s₁ [] 0 0 := Stand.of_body Bd
  have e0 : s₁.heap = h0 := by rw [← hh, Bd.state]; rfl
  have N0 := Fr.nil n0
  have pre0 : ∀ t, Steps p.tables e below (s₁.setTop (mkF m 0 #[rv a1, .unset, .unset] [])) t → Steps p.tables e below (s₁.setTop (entryFrame m #[(.ref a1)] 3)) t := fun t k => castTop (ef_5 m a1) k
  obtain ⟨cq1, q1, q1'⟩ := E_a1.cell
  obtain ⟨_, _, ⟨T1, L1, k1, n1⟩, -, X1, ⟨Lc1, hQ1, l1, y1, z1⟩, st1⟩ := X0.privateBack hx (y := (⟨"com/example/converge/converge/runtime/WireReader", "readLength", "()I"⟩ : MethodName)) hown (mvT hZ (hw _ (List.mem_of_getElem? (i := 29) rfl))) (mvT hZ (hw _ (List.mem_of_getElem? (i := 30) rfl))) (own_sel (mvT hZ (hw _ (List.mem_of_getElem? (i := 2) rfl))) (mvP hZ (hw _ (List.mem_of_getElem? (i := 31) rfl))) (mvT hZ (hw _ (List.mem_of_getElem? (i := 30) rfl))) (by decide)) (Cond.privateMethod_at (mvP hZ (hw _ (List.mem_of_getElem? (i := 31) rfl)) (args := #[]))) (mvT hZ (hw _ (List.mem_of_getElem? (i := 32) rfl))) (by decide) (backOf (W := 0) (rm6 l Z a0 hw [] a1 a2 p3 p4 k z vs x h0 n0 Z0 E_a1 g_a1 F_b F_p F_e V_a2 hne hin hat hnn ne21 hv0 hv1) hZ (hw _ (List.mem_of_getElem? (i := 32) rfl)) (hw _ (List.mem_of_getElem? (i := 3) rfl)) (by decide) (by decide)) (g := (mkF m 1 #[rv a1, .unset, .unset] [(.ref a1)])) rfl (by rw [hml]; rfl) (Steps.refl _) (a := a1) (by rw [e0]; exact q1) q1' (argsL := []) (rest := []) (lenOf pd_2 rfl) rfl (by show 2 * 0 + _ ≤ _; exact Nat.le_of_eq rfl) (hb hby d5_1) (fun _ _ => ⟨rfl, e0, (by decide : 0 + 0 ≤ _), (by decide : 0 + 0 ≤ _)⟩)
  dsimp only [Pt.U, Pt.locs, Pt.cells, Pt.slots] at X1 l1 y1 z1 st1 hQ1
  subst l1 y1 z1
  obtain ⟨rfl, N1q, K1, E1c, Fb1, Fp1, Fe1⟩ := hQ1
  have N1 := Fr.app N0 N1q
  have Zs2 : n0 ≤ T1.heap.size := (Nat.le_trans Z0 K1.1)
  have Vn_3 := (V_a2.keep K1 (ninS ne21 nin0))
  obtain ⟨T4, h4, X4, e4, E4, A4, D4, -, st4⟩ := newO X1 hx hZ hown (hw _ (List.mem_of_getElem? (i := 38) rfl)) (hw _ (List.mem_of_getElem? (i := 2) rfl)) (hw _ (List.mem_of_getElem? (i := 3) rfl)) rfl (g := (mkF m 5 #[rv a1, iv (own_val x).toInt32, .unset] [])) rfl (hb hby d5_5) (by decide) (by decide)
  obtain ⟨b4, g4⟩ : ∃ z, z = T1.heap.size := ⟨_, rfl⟩
  rw [← g4] at A4 D4 st4
  have g_b4 : n0 ≤ b4 := Nat.le_trans Zs2 (Nat.le_of_eq g4.symm)
  have sz_b4 : h0.size ≤ b4 := Nat.le_trans (((Keep.refl h0 [a1]).trans K1 (allS (Or.inl (List.mem_of_getElem? (i := 0) rfl)) all0))).1 (Nat.le_of_eq g4.symm)
  have ne_a1_b4 : a1 ≠ b4 := Nat.ne_of_lt (Nat.lt_of_lt_of_le Fe1.lt (Nat.le_of_eq g4.symm))
  have ne_a2_b4 : a2 ≠ b4 := Nat.ne_of_lt (Nat.lt_of_lt_of_le Vn_3.lt (Nat.le_of_eq g4.symm))
  have F__bytes_b4 : Fld Z h4 b4 "com/example/converge/converge/runtime/WireReader" "_bytes" "[B" .null := D4 (Or.inr (hw _ (List.mem_of_getElem? (i := 14) rfl))) (ty := (.array .byte)) (by decide)
  have F__position_b4 : Fld Z h4 b4 "com/example/converge/converge/runtime/WireReader" "_position" "I" (.int (0 : Int32)) := D4 (Or.inl (hw _ (List.mem_of_getElem? (i := 16) rfl))) (ty := .int) (by decide)
  have F__end_b4 : Fld Z h4 b4 "com/example/converge/converge/runtime/WireReader" "_end" "I" (.int (0 : Int32)) := D4 (Or.inr (hw _ (List.mem_of_getElem? (i := 18) rfl))) (ty := .int) (by decide)
  have Fn_5 := (Fb1.ext E4)
  obtain ⟨T6, X6, e6, st6⟩ := getF X4 hx hZ hown (host := "") (Or.inl (hw _ (List.mem_of_getElem? (i := 13) rfl))) Via.refl e4 Fn_5 (g := (mkF m 10 #[rv a1, iv (own_val x).toInt32, .unset] [(.ref a1), (.ref b4), (.ref b4)])) rfl rfl (hb hby d5_10)
  have Fn_7 := (Fp1.ext E4)
  obtain ⟨T8, X8, e8, st8⟩ := getF X6 hx hZ hown (host := "") (Or.inl (hw _ (List.mem_of_getElem? (i := 15) rfl))) Via.refl e6 Fn_7 (g := (mkF m 14 #[rv a1, iv (own_val x).toInt32, .unset] [(.ref a1), (.ref a2), (.ref b4), (.ref b4)])) rfl rfl (hb hby d5_14)
  obtain ⟨T9, X9, e9, st9⟩ := getF X8 hx hZ hown (host := "") (Or.inl (hw _ (List.mem_of_getElem? (i := 15) rfl))) Via.refl e8 Fn_7 (g := (mkF m 18 #[rv a1, iv (own_val x).toInt32, .unset] [(.ref a1), (.int (p3 + (1 : Int32))), (.ref a2), (.ref b4), (.ref b4)])) rfl rfl (hb hby d5_18)
  have Zs11 : n0 ≤ h4.size := (Nat.le_trans Zs2 E4.1)
  obtain ⟨_, _, ⟨T10, L10, k10, n10⟩, -, X10, ⟨Lc10, hQ10, l10, y10, z10⟩, st10⟩ := X9.specialBack hx (y := (⟨"com/example/converge/converge/runtime/WireReader", "<init>", "([BII)V"⟩ : MethodName)) rfl hown (mvT hZ (hw _ (List.mem_of_getElem? (i := 7) rfl))) (mvT hZ (hw _ (List.mem_of_getElem? (i := 8) rfl))) (mvT hZ (hw _ (List.mem_of_getElem? (i := 9) rfl))) (by decide) (backOf (W := 1) (rm2 l Z a0 hw [] b4 a2 (p3 + (1 : Int32)) ((p3 + (1 : Int32)) + (own_val x).toInt32) h4 n0 Zs11 A4 g_b4 F__bytes_b4 F__position_b4 F__end_b4) hZ (hw _ (List.mem_of_getElem? (i := 9) rfl)) (hw _ (List.mem_of_getElem? (i := 3) rfl)) (by decide) (by decide)) (g := (mkF m 23 #[rv a1, iv (own_val x).toInt32, .unset] [(.int ((p3 + (1 : Int32)) + (own_val x).toInt32)), (.int (p3 + (1 : Int32))), (.ref a2), (.ref b4), (.ref b4)])) rfl (by rw [hml]; rfl) (Steps.refl _) (a := b4) (argsL := [(.ref a2), (.int (p3 + (1 : Int32))), (.int ((p3 + (1 : Int32)) + (own_val x).toInt32))]) (rest := [(.ref b4)]) (lenOf pd_0 rfl) rfl (by show 2 * 0 + _ ≤ _; exact Nat.le_of_eq rfl) (hb hby d5_23) (fun _ _ => ⟨rfl, e9, (by decide : 1 + 0 ≤ _), (by decide : 3 + 0 ≤ _)⟩)
  dsimp only [Pt.U, Pt.locs, Pt.cells, Pt.slots] at X10 l10 y10 z10 st10 hQ10
  subst l10 y10 z10
  obtain ⟨rfl, N10q, K10, E10c, Fb10, Fp10, Fe10⟩ := hQ10
  have N10 := Fr.app N1 N10q
  have Fn_12 := (Fn_7.keep K10 (ninS ne_a1_b4 nin0))
  obtain ⟨T13, X13, e13, st13⟩ := getF X10 hx hZ hown (host := "") (Or.inl (hw _ (List.mem_of_getElem? (i := 15) rfl))) Via.refl rfl Fn_12 (g := (mkF m 29 #[rv a1, iv (own_val x).toInt32, rv b4] [(.ref a1), (.ref a1)])) rfl rfl (hb hby d5_29)
  have En_14 := ((E1c.ext E4).keep K10)
  obtain ⟨T15, h15, X15, e15, W15, st15⟩ := putF X13 hx hZ hown (host := "") (Or.inl (hw _ (List.mem_of_getElem? (i := 15) rfl))) Via.refl e13 Fn_12 En_14 (Or.inl (hw _ (List.mem_of_getElem? (i := 16) rfl))) (hw _ (List.mem_of_getElem? (i := 2) rfl)) (ty := .int) (by decide) rfl rfl (g := (mkF m 34 #[rv a1, iv (own_val x).toInt32, rv b4] [(.int ((p3 + (1 : Int32)) + (own_val x).toInt32)), (.ref a1)])) rfl rfl (hb hby d5_34)
  have Fw15 := Fn_12.same W15
  have N15 := Fr.snoc X15 N10 g_a1
  have pre16 : ∀ t, own_S p e below T15 m 38 #[rv a1, iv (own_val x).toInt32, rv b4] [(.ref b4)] t → Steps p.tables e below (s₁.setTop (entryFrame m #[(.ref a1)] 3)) t := fun t k => pre0 t (by
    show own_S p e below s₁ m 0 #[rv a1, .unset, .unset] [] _
    refine XS.aloadN X0.here hx rfl (hb hby d5_0) rfl rfl ?_
    show own_S p e below s₁ m 1 #[rv a1, .unset, .unset] [(.ref a1)] _
    refine st1.trans ?_
    show own_S p e below T1 m 4 #[rv a1, .unset, .unset] [(.int (own_val x).toInt32)] _
    refine XS.istoreN X1.here hx rfl (hb hby d5_4) rfl (l' := #[rv a1, iv (own_val x).toInt32, .unset]) rfl ?_
    show own_S p e below T1 m 5 #[rv a1, iv (own_val x).toInt32, .unset] [] _
    refine st4 _ ?_
    show own_S p e below T4 m 8 #[rv a1, iv (own_val x).toInt32, .unset] [(.ref b4)] _
    refine XS.dup X4.here hx rfl (hb hby d5_8) rfl rfl ?_
    show own_S p e below T4 m 9 #[rv a1, iv (own_val x).toInt32, .unset] [(.ref b4), (.ref b4)] _
    refine XS.aloadN X4.here hx rfl (hb hby d5_9) rfl rfl ?_
    show own_S p e below T4 m 10 #[rv a1, iv (own_val x).toInt32, .unset] [(.ref a1), (.ref b4), (.ref b4)] _
    refine st6 _ ?_
    show own_S p e below T6 m 13 #[rv a1, iv (own_val x).toInt32, .unset] [(.ref a2), (.ref b4), (.ref b4)] _
    refine XS.aloadN X6.here hx rfl (hb hby d5_13) rfl rfl ?_
    show own_S p e below T6 m 14 #[rv a1, iv (own_val x).toInt32, .unset] [(.ref a1), (.ref a2), (.ref b4), (.ref b4)] _
    refine st8 _ ?_
    show own_S p e below T8 m 17 #[rv a1, iv (own_val x).toInt32, .unset] [(.int (p3 + (1 : Int32))), (.ref a2), (.ref b4), (.ref b4)] _
    refine XS.aloadN X8.here hx rfl (hb hby d5_17) rfl rfl ?_
    show own_S p e below T8 m 18 #[rv a1, iv (own_val x).toInt32, .unset] [(.ref a1), (.int (p3 + (1 : Int32))), (.ref a2), (.ref b4), (.ref b4)] _
    refine st9 _ ?_
    show own_S p e below T9 m 21 #[rv a1, iv (own_val x).toInt32, .unset] [(.int (p3 + (1 : Int32))), (.int (p3 + (1 : Int32))), (.ref a2), (.ref b4), (.ref b4)] _
    refine XS.iloadN X9.here hx rfl (hb hby d5_21) rfl ?_
    show own_S p e below T9 m 22 #[rv a1, iv (own_val x).toInt32, .unset] [(.int (own_val x).toInt32), (.int (p3 + (1 : Int32))), (.int (p3 + (1 : Int32))), (.ref a2), (.ref b4), (.ref b4)] _
    refine XS.iadd X9.here hx rfl (hb hby d5_22) rfl ?_
    show own_S p e below T9 m 23 #[rv a1, iv (own_val x).toInt32, .unset] [(.int ((p3 + (1 : Int32)) + (own_val x).toInt32)), (.int (p3 + (1 : Int32))), (.ref a2), (.ref b4), (.ref b4)] _
    refine st10.trans ?_
    show own_S p e below T10 m 26 #[rv a1, iv (own_val x).toInt32, .unset] [(.ref b4)] _
    refine XS.astoreN X10.here hx rfl (hb hby d5_26) rfl rfl (l' := #[rv a1, iv (own_val x).toInt32, rv b4]) rfl ?_
    show own_S p e below T10 m 27 #[rv a1, iv (own_val x).toInt32, rv b4] [] _
    refine XS.aloadN X10.here hx rfl (hb hby d5_27) rfl rfl ?_
    show own_S p e below T10 m 28 #[rv a1, iv (own_val x).toInt32, rv b4] [(.ref a1)] _
    refine XS.dup X10.here hx rfl (hb hby d5_28) rfl rfl ?_
    show own_S p e below T10 m 29 #[rv a1, iv (own_val x).toInt32, rv b4] [(.ref a1), (.ref a1)] _
    refine st13 _ ?_
    show own_S p e below T13 m 32 #[rv a1, iv (own_val x).toInt32, rv b4] [(.int (p3 + (1 : Int32))), (.ref a1)] _
    refine XS.iloadN X13.here hx rfl (hb hby d5_32) rfl ?_
    show own_S p e below T13 m 33 #[rv a1, iv (own_val x).toInt32, rv b4] [(.int (own_val x).toInt32), (.int (p3 + (1 : Int32))), (.ref a1)] _
    refine XS.iadd X13.here hx rfl (hb hby d5_33) rfl ?_
    show own_S p e below T13 m 34 #[rv a1, iv (own_val x).toInt32, rv b4] [(.int ((p3 + (1 : Int32)) + (own_val x).toInt32)), (.ref a1)] _
    refine st15 _ ?_
    show own_S p e below T15 m 37 #[rv a1, iv (own_val x).toInt32, rv b4] [] _
    refine XS.aloadN X15.here hx rfl (hb hby d5_37) rfl rfl ?_
    exact k)
  obtain ⟨fs, hr, hrun, hended, hW, hsame⟩ := X15.leave (v := some (.ref b4)) (fun h => by rw [Bd.returns] at h; cases h)
  refine ⟨_, _, pre16 _ ?_, hrun, hended, _, _, rfl, ?_, ⟨_, rfl⟩, hW, hsame.mono (by decide) (by decide)⟩
  · show own_S p e below T15 m 38 #[rv a1, iv (own_val x).toInt32, rv b4] [(.ref b4)] _
    exact retOut X15 hx (t := (.object "com/example/converge/converge/runtime/WireReader")) Bd.returns rfl (Or.inr (Or.inr (Or.inr (Or.inr ⟨rfl, rfl, rfl⟩)))) (hb hby d5_38) hr
  · show Q5 Z a1 a2 p3 p4 k z vs x h0 n0 _ T15.heap _
    rw [e15]
    have En_17 := (En_14.wr W15)
    have Fn_18 := ((Fn_5.keep K10 (ninS ne_a1_b4 nin0)).other W15 (Or.inr (slot_ne (Or.inr (hw _ (List.mem_of_getElem? (i := 14) rfl))) (Or.inl (hw _ (List.mem_of_getElem? (i := 16) rfl))) (by decide) (t := (.array .byte)) (t' := .int) (by decide) (by decide))))
    have Fn_19 := (((Fe1.ext E4).keep K10 (ninS ne_a1_b4 nin0)).other W15 (Or.inr (slot_ne (Or.inr (hw _ (List.mem_of_getElem? (i := 18) rfl))) (Or.inl (hw _ (List.mem_of_getElem? (i := 16) rfl))) (by decide) (t := .int) (t' := .int) (by decide) (by decide))))
    have En_20 := (E10c.wr W15)
    have Fn_21 := (Fb10.other W15 (Or.inl (Ne.symm ne_a1_b4)))
    have Fn_22 := (Fp10.other W15 (Or.inl (Ne.symm ne_a1_b4)))
    have Fn_23 := (Fe10.other W15 (Or.inl (Ne.symm ne_a1_b4)))
    exact ⟨_, rfl, N15, (((((Keep.refl h0 [a1]).trans K1 (allS (Or.inl (List.mem_of_getElem? (i := 0) rfl)) all0)).ext E4).trans K10 (allS (Or.inr sz_b4) all0)).wr W15 (Or.inl (List.mem_of_getElem? (i := 0) rfl))), En_17, Fn_18, Fw15, Fn_19, g_b4, sz_b4, En_20, Fn_21, Fn_22, Fn_23⟩
theorem own_len (p : Int32) : p &&& (3 : Int32) = 0 ∨ p &&& (3 : Int32) = 1 ∨ p &&& (3 : Int32) = 2 ∨ p &&& (3 : Int32) = 3 := by
  have e := c_mask p 3 2 (by decide) (by decide)
  have l0 : (0 : Int32).toInt = 0 := by decide
  have l1 : (1 : Int32).toInt = 1 := by decide
  have l2 : (2 : Int32).toInt = 2 := by decide
  have l3 : (3 : Int32).toInt = 3 := by decide
  simp only [← Int32.toInt_inj, l0, l1, l2, l3]
  omega
theorem own_nb (p : Int32) : ¬ (nar .byte ((p &&& (127 : Int32)).toInt8.toInt32)) < 0 := by
  have e := c_mask p 127 7 (by decide) (by decide)
  have e2 := c_i2b (p &&& (127 : Int32))
  have e3 := c_i2b (p &&& (127 : Int32)).toInt8.toInt32
  have l0 : (0 : Int32).toInt = 0 := by decide
  show ¬ ((p &&& (127 : Int32)).toInt8.toInt32).toInt8.toInt32 < 0
  rw [Int32.lt_iff_toInt_lt, l0]
  omega
theorem pn_1 : plainName "com/example/converge/converge/runtime/WireReaderIsAtEndPinLaw" = true := by first | (simp [plainName, overriddenIn]; done) | decide +kernel
theorem ef_0 (m : MethodId) (p1 : Int32) (p2 : Int32) (p3 : Int32) (p4 : Int32) : entryFrame m #[(.int p1), (.int p2), (.int p3), (.int p4)] maxLocals = mkF m 0 #[iv p1, iv p2, iv p3, iv p4, .unset, .unset, .unset, .unset, .unset, .unset] [] := by first | (simp [entryFrame, mkF, argsToLocals, Value.category, maxLocals]; done) | rfl
def Q0 (Z : State) (p1 : Int32) (p2 : Int32) (p3 : Int32) (p4 : Int32) (h0 : Heap) (n0 : Nat) (v : Option Value) (h : Heap) (L : List Loc) : Prop := v = some (.int 1) ∧ Fr n0 L
theorem pd_3 : parseMethodDescriptor "([B)V" = some ⟨[(.array .byte)], none⟩ := by decide +kernel
theorem pd_4 : parseMethodDescriptor "()Z" = some ⟨[], some .boolean⟩ := by decide +kernel
theorem pd_5 : parseMethodDescriptor "()Lcom/example/converge/converge/runtime/WireReader;" = some ⟨[], some (.object "com/example/converge/converge/runtime/WireReader")⟩ := by decide +kernel
set_option maxRecDepth 65536 in
set_option maxHeartbeats 40000000 in
theorem rm0 (l : Launch) (Z : State) (a0 : Array Value) (hw : ∀ d ∈ tables_1, d.before a0 Z = true) (ws : List Jvm.Cond) (p1 : Int32) (p2 : Int32) (p3 : Int32) (p4 : Int32) (h0 : Heap) (n0 : Nat) (Z0 : n0 ≤ h0.size)  :
    MetFree l x (head1 (Jvm.Cond.code x code maxLocals ret :: ws) room_1) (fun a U => a = #[(.int p1), (.int p2), (.int p3), (.int p4)] ∧ Z.Warmed39 U.vm ∧ U.heap = h0) (fun _ _ _ _ _ => True) (fun _ U o U' => ∃ v L, o = .returned v ∧ Q0 Z p1 p2 p3 p4 h0 n0 v U'.heap L ∧ FrameEnd U o U' L room_1.cells room_1.slots) := by
  refine MetFree.of_bodySF (plainFor_of_name pn_1) hisR ?_
  intro p e s m args below meth c s₁ Bd hml0 hP hK
  obtain ⟨rfl, hZ, hh⟩ := hP
  have hx := Bd.exec
  have hby := Bd.bytes
  have hml : c.maxLocals = 10 := hml0
  have hown : s.vm.findClass "com/example/converge/converge/runtime/WireReaderIsAtEndPinLaw" = some m.cls := findClass_of_methodNamed Bd.named
  have hnm := (name_of_methodNamed Bd.named Bd.method).1
  have X0 : Stand p l e room_1 s m #[(.int p1), (.int p2), (.int p3), (.int p4)] below meth c s₁ [] 0 0 := Stand.of_body Bd
  have e0 : s₁.heap = h0 := by rw [← hh, Bd.state]; rfl
  have N0 := Fr.nil n0
  have pre0 : ∀ t, Steps p.tables e below (s₁.setTop (mkF m 0 #[iv p1, iv p2, iv p3, iv p4, .unset, .unset, .unset, .unset, .unset, .unset] [])) t → Steps p.tables e below (s₁.setTop (entryFrame m #[(.int p1), (.int p2), (.int p3), (.int p4)] maxLocals)) t := fun t k => castTop (ef_0 m p1 p2 p3 p4) k
  have pre1 : ∀ t, own_S p e below s₁ m 5 #[iv p1, iv p2, iv p3, iv p4, iv (p1 &&& (3 : Int32)), .unset, .unset, .unset, .unset, .unset] [] t → Steps p.tables e below (s₁.setTop (entryFrame m #[(.int p1), (.int p2), (.int p3), (.int p4)] maxLocals)) t := fun t k => pre0 t (by
    show own_S p e below s₁ m 0 #[iv p1, iv p2, iv p3, iv p4, .unset, .unset, .unset, .unset, .unset, .unset] [] _
    refine XS.iloadN X0.here hx rfl (hb hby at_0) rfl ?_
    show own_S p e below s₁ m 1 #[iv p1, iv p2, iv p3, iv p4, .unset, .unset, .unset, .unset, .unset, .unset] [(.int p1)] _
    refine XS.iconst X0.here hx rfl (hb hby at_1) ?_
    show own_S p e below s₁ m 2 #[iv p1, iv p2, iv p3, iv p4, .unset, .unset, .unset, .unset, .unset, .unset] [(.int (3 : Int32)), (.int p1)] _
    refine XS.iand X0.here hx rfl (hb hby at_2) rfl ?_
    show own_S p e below s₁ m 3 #[iv p1, iv p2, iv p3, iv p4, .unset, .unset, .unset, .unset, .unset, .unset] [(.int (p1 &&& (3 : Int32)))] _
    refine XS.istore X0.here hx rfl (hb hby at_3) rfl (l' := #[iv p1, iv p2, iv p3, iv p4, iv (p1 &&& (3 : Int32)), .unset, .unset, .unset, .unset, .unset]) rfl ?_
    exact k)
  have hl0 := own_len p1
  obtain ⟨ln, eln⟩ : ∃ z, z = (p1 &&& (3 : Int32)) := ⟨_, rfl⟩
  rw [← eln] at hl0 pre1
  rcases hl0 with rfl | rfl | rfl | rfl
  ·  -- case
    obtain ⟨T2, h2, k2, X2, e2, E2, A2, st2⟩ := newP X0 hx hZ (hw _ (List.mem_of_getElem? (i := 0) rfl)) e0 (g := (mkF m 6 #[iv p1, iv p2, iv p3, iv p4, iv (0 : Int32), .unset, .unset, .unset, .unset, .unset] [(.int (4 : Int32))])) rfl (hb hby at_6) rfl (by decide) (cap := 4) (by decide) (by decide) (by decide) (by decide)
    obtain ⟨b2, g2⟩ : ∃ z, z = h0.size := ⟨_, rfl⟩
    rw [← g2] at A2 st2
    have g_b2 : n0 ≤ b2 := Nat.le_trans Z0 (Nat.le_of_eq g2.symm)
    have sz_b2 : h0.size ≤ b2 := Nat.le_trans ((Keep.refl h0 [])).1 (Nat.le_of_eq g2.symm)
    have V_b2 : Arv Z h2 b2 k2 .byte (4 : Int32) [(.int (0 : Int32)), (.int (0 : Int32)), (.int (0 : Int32)), (.int (0 : Int32))] (.int (0 : Int32)) := (Arv.new A2 (by decide)).pad (pad_rep [] (.int (0 : Int32)) 4)
    obtain ⟨cl3, Ar3, q3, S3, M3, H3, G3⟩ := id V_b2
    have hin3 : ¬ ((0 : Int32) < 0 ∨ cl3.slots.size ≤ ((0 : Int32)).toNatClampNeg) := inb_of S3 ⟨by decide, by decide⟩
    obtain ⟨T3, h3, X3, e3, W3, st3⟩ := stB X2 hx hZ e2 Ar3 (j := (0 : Int32)) hin3 (g := (mkF m 16 #[iv p1, iv p2, iv p3, iv p4, iv (0 : Int32), rv b2, .unset, .unset, .unset, .unset] [(.int ((0 : Int32).toInt8.toInt32)), (.int (0 : Int32)), (.ref b2)])) rfl rfl (hb hby at_16)
    have V3 : Arv Z h3 b2 k2 .byte (4 : Int32) [(.int (nar .byte ((0 : Int32).toInt8.toInt32))), (.int (0 : Int32)), (.int (0 : Int32)), (.int (0 : Int32))] (.int (0 : Int32)) := Arv.set Ar3 q3 S3 M3 H3 G3 (fits_nar_byte _) W3 0 rfl (Nat.le_of_ble_eq_true rfl)
    have N3 := Fr.snoc X3 N0 g_b2
    obtain ⟨cl4, Ar4, q4, S4, M4, H4, G4⟩ := id V3
    have hin4 : ¬ ((1 : Int32) < 0 ∨ cl4.slots.size ≤ ((1 : Int32)).toNatClampNeg) := inb_of S4 ⟨by decide, by decide⟩
    obtain ⟨T4, h4, X4, e4, W4, st4⟩ := stB X3 hx hZ e3 Ar4 (j := (1 : Int32)) hin4 (g := (mkF m 25 #[iv p1, iv p2, iv p3, iv p4, iv (0 : Int32), rv b2, .unset, .unset, .unset, .unset] [(.int ((p2 &&& (127 : Int32)).toInt8.toInt32)), (.int (1 : Int32)), (.ref b2)])) rfl rfl (hb hby at_25)
    have V4 : Arv Z h4 b2 k2 .byte (4 : Int32) [(.int (nar .byte ((0 : Int32).toInt8.toInt32))), (.int (nar .byte ((p2 &&& (127 : Int32)).toInt8.toInt32))), (.int (0 : Int32)), (.int (0 : Int32))] (.int (0 : Int32)) := Arv.set Ar4 q4 S4 M4 H4 G4 (fits_nar_byte _) W4 1 rfl (Nat.le_of_ble_eq_true rfl)
    have N4 := Fr.snoc X4 N3 g_b2
    obtain ⟨cl5, Ar5, q5, S5, M5, H5, G5⟩ := id V4
    have hin5 : ¬ ((2 : Int32) < 0 ∨ cl5.slots.size ≤ ((2 : Int32)).toNatClampNeg) := inb_of S5 ⟨by decide, by decide⟩
    obtain ⟨T5, h5, X5, e5, W5, st5⟩ := stB X4 hx hZ e4 Ar5 (j := (2 : Int32)) hin5 (g := (mkF m 34 #[iv p1, iv p2, iv p3, iv p4, iv (0 : Int32), rv b2, .unset, .unset, .unset, .unset] [(.int ((p3 &&& (127 : Int32)).toInt8.toInt32)), (.int (2 : Int32)), (.ref b2)])) rfl rfl (hb hby at_34)
    have V5 : Arv Z h5 b2 k2 .byte (4 : Int32) [(.int (nar .byte ((0 : Int32).toInt8.toInt32))), (.int (nar .byte ((p2 &&& (127 : Int32)).toInt8.toInt32))), (.int (nar .byte ((p3 &&& (127 : Int32)).toInt8.toInt32))), (.int (0 : Int32))] (.int (0 : Int32)) := Arv.set Ar5 q5 S5 M5 H5 G5 (fits_nar_byte _) W5 2 rfl (Nat.le_of_ble_eq_true rfl)
    have N5 := Fr.snoc X5 N4 g_b2
    obtain ⟨cl6, Ar6, q6, S6, M6, H6, G6⟩ := id V5
    have hin6 : ¬ ((3 : Int32) < 0 ∨ cl6.slots.size ≤ ((3 : Int32)).toNatClampNeg) := inb_of S6 ⟨by decide, by decide⟩
    obtain ⟨T6, h6, X6, e6, W6, st6⟩ := stB X5 hx hZ e5 Ar6 (j := (3 : Int32)) hin6 (g := (mkF m 43 #[iv p1, iv p2, iv p3, iv p4, iv (0 : Int32), rv b2, .unset, .unset, .unset, .unset] [(.int ((p4 &&& (127 : Int32)).toInt8.toInt32)), (.int (3 : Int32)), (.ref b2)])) rfl rfl (hb hby at_43)
    have V6 : Arv Z h6 b2 k2 .byte (4 : Int32) [(.int (nar .byte ((0 : Int32).toInt8.toInt32))), (.int (nar .byte ((p2 &&& (127 : Int32)).toInt8.toInt32))), (.int (nar .byte ((p3 &&& (127 : Int32)).toInt8.toInt32))), (.int (nar .byte ((p4 &&& (127 : Int32)).toInt8.toInt32)))] (.int (0 : Int32)) := Arv.set Ar6 q6 S6 M6 H6 G6 (fits_nar_byte _) W6 3 rfl (Nat.le_of_ble_eq_true rfl)
    have N6 := Fr.snoc X6 N5 g_b2
    have Zs7 : n0 ≤ h6.size := (Nat.le_trans (Nat.le_trans (Nat.le_trans (Nat.le_trans (Nat.le_trans Z0 E2.1) (Keep.of_wr W3).1) (Keep.of_wr W4).1) (Keep.of_wr W5).1) (Keep.of_wr W6).1)
    obtain ⟨T8, h8, X8, e8, E8, A8, D8, -, st8⟩ := newO X6 hx hZ hown (hw _ (List.mem_of_getElem? (i := 1) rfl)) (hw _ (List.mem_of_getElem? (i := 2) rfl)) (hw _ (List.mem_of_getElem? (i := 3) rfl)) e6 (g := (mkF m 44 #[iv p1, iv p2, iv p3, iv p4, iv (0 : Int32), rv b2, .unset, .unset, .unset, .unset] [])) rfl (hb hby at_44) (by decide) (by decide)
    obtain ⟨b8, g8⟩ : ∃ z, z = h6.size := ⟨_, rfl⟩
    rw [← g8] at A8 D8 st8
    have g_b8 : n0 ≤ b8 := Nat.le_trans Zs7 (Nat.le_of_eq g8.symm)
    have sz_b8 : h0.size ≤ b8 := Nat.le_trans (((((((Keep.refl h0 []).ext E2).wr W3 (Or.inr sz_b2)).wr W4 (Or.inr sz_b2)).wr W5 (Or.inr sz_b2)).wr W6 (Or.inr sz_b2))).1 (Nat.le_of_eq g8.symm)
    have ne_b2_b8 : b2 ≠ b8 := Nat.ne_of_lt (Nat.lt_of_lt_of_le V6.lt (Nat.le_of_eq g8.symm))
    have F__bytes_b8 : Fld Z h8 b8 "com/example/converge/converge/runtime/WireReader" "_bytes" "[B" .null := D8 (Or.inr (hw _ (List.mem_of_getElem? (i := 14) rfl))) (ty := (.array .byte)) (by decide)
    have F__position_b8 : Fld Z h8 b8 "com/example/converge/converge/runtime/WireReader" "_position" "I" (.int (0 : Int32)) := D8 (Or.inl (hw _ (List.mem_of_getElem? (i := 16) rfl))) (ty := .int) (by decide)
    have F__end_b8 : Fld Z h8 b8 "com/example/converge/converge/runtime/WireReader" "_end" "I" (.int (0 : Int32)) := D8 (Or.inr (hw _ (List.mem_of_getElem? (i := 18) rfl))) (ty := .int) (by decide)
    have Zs9 : n0 ≤ h8.size := (Nat.le_trans Zs7 E8.1)
    have Vn_10 := (V6.ext E8)
    obtain ⟨T11, h11, k11, X11, e11, E11, A11, st11⟩ := newP X8 hx hZ (hw _ (List.mem_of_getElem? (i := 0) rfl)) e8 (g := (mkF m 49 #[iv p1, iv p2, iv p3, iv p4, iv (0 : Int32), rv b2, .unset, .unset, .unset, .unset] [(.int (0 : Int32)), (.ref b8), (.ref b8)])) rfl (hb hby at_49) rfl (by decide) (cap := 0) (by decide) (by decide) (by decide) (by decide)
    obtain ⟨b11, g11⟩ : ∃ z, z = h8.size := ⟨_, rfl⟩
    rw [← g11] at A11 st11
    have g_b11 : n0 ≤ b11 := Nat.le_trans Zs9 (Nat.le_of_eq g11.symm)
    have sz_b11 : h0.size ≤ b11 := Nat.le_trans ((((((((Keep.refl h0 []).ext E2).wr W3 (Or.inr sz_b2)).wr W4 (Or.inr sz_b2)).wr W5 (Or.inr sz_b2)).wr W6 (Or.inr sz_b2)).ext E8)).1 (Nat.le_of_eq g11.symm)
    have ne_b2_b11 : b2 ≠ b11 := Nat.ne_of_lt (Nat.lt_of_lt_of_le Vn_10.lt (Nat.le_of_eq g11.symm))
    have ne_b8_b11 : b8 ≠ b11 := Nat.ne_of_lt (Nat.lt_of_lt_of_le F__end_b8.lt (Nat.le_of_eq g11.symm))
    have V_b11 : Arv Z h11 b11 k11 .byte (0 : Int32) [] (.int (0 : Int32)) := (Arv.new A11 (by decide)).pad (pad_rep [] (.int (0 : Int32)) 0)
    have En_12 := (A8.ext E11)
    have Fn_13 := (F__bytes_b8.ext E11)
    have Fn_14 := (F__position_b8.ext E11)
    have Fn_15 := (F__end_b8.ext E11)
    have Zs17 : n0 ≤ h11.size := (Nat.le_trans Zs9 E11.1)
    obtain ⟨_, _, ⟨T16, L16, k16, n16⟩, -, X16, ⟨Lc16, hQ16, l16, y16, z16⟩, st16⟩ := X11.specialBack hx (y := (⟨"com/example/converge/converge/runtime/WireReader", "<init>", "([B)V"⟩ : MethodName)) rfl hown (mvT hZ (hw _ (List.mem_of_getElem? (i := 4) rfl))) (mvT hZ (hw _ (List.mem_of_getElem? (i := 5) rfl))) (mvT hZ (hw _ (List.mem_of_getElem? (i := 6) rfl))) (by decide) (backOf (W := 1) (rm1 l Z a0 hw [] b8 b11 k11 (0 : Int32) [] h11 n0 Zs17 En_12 g_b8 Fn_13 Fn_14 Fn_15 V_b11) hZ (hw _ (List.mem_of_getElem? (i := 6) rfl)) (hw _ (List.mem_of_getElem? (i := 3) rfl)) (by decide) (by decide)) (g := (mkF m 51 #[iv p1, iv p2, iv p3, iv p4, iv (0 : Int32), rv b2, .unset, .unset, .unset, .unset] [(.ref b11), (.ref b8), (.ref b8)])) rfl (by rw [hml]; rfl) (Steps.refl _) (a := b8) (argsL := [(.ref b11)]) (rest := [(.ref b8)]) (lenOf pd_3 rfl) rfl (by show 2 * 0 + _ ≤ _; exact Nat.le_of_eq rfl) (hb hby at_51) (fun _ _ => ⟨rfl, e11, (by decide : 3 + 0 ≤ _), (by decide : 7 + 0 ≤ _)⟩)
    dsimp only [Pt.U, Pt.locs, Pt.cells, Pt.slots] at X16 l16 y16 z16 st16 hQ16
    subst l16 y16 z16
    obtain ⟨rfl, N16q, K16, E16c, Fb16, Fp16, Fe16⟩ := hQ16
    have N16 := Fr.app N6 N16q
    have Zs19 : n0 ≤ T16.heap.size := (Nat.le_trans Zs17 K16.1)
    obtain ⟨cq18, kq18, q18a, q18b, q18c⟩ := isOf hZ rfl E16c
    obtain ⟨_, _, ⟨T18, L18, k18, n18⟩, -, X18, ⟨Lc18, hQ18, l18, y18, z18⟩, st18⟩ := X16.virtualBack hx (y := (⟨"com/example/converge/converge/runtime/WireReader", "isAtEnd", "()Z"⟩ : MethodName)) (z := (⟨"com/example/converge/converge/runtime/WireReader", "isAtEnd", "()Z"⟩ : MethodName)) hown (mvT hZ (hw _ (List.mem_of_getElem? (i := 19) rfl))) (mvT hZ (hw _ (List.mem_of_getElem? (i := 20) rfl))) (notFace_of_selects (args := #[]) (mvT hZ (hw _ (List.mem_of_getElem? (i := 22) rfl)))) (mvT hZ (hw _ (List.mem_of_getElem? (i := 22) rfl))) (mvT hZ (hw _ (List.mem_of_getElem? (i := 21) rfl))) (by decide) (backOf (W := 0) (rm4 l Z a0 hw [] b8 (0 : Int32) (0 : Int32) T16.heap n0 Zs19 Fp16 Fe16) hZ (hw _ (List.mem_of_getElem? (i := 23) rfl)) (hw _ (List.mem_of_getElem? (i := 3) rfl)) (by decide) (by decide)) q18a q18c (g := (mkF m 58 #[iv p1, iv p2, iv p3, iv p4, iv (0 : Int32), rv b2, rv b8, .unset, .unset, .unset] [(.ref b8)])) rfl (by rw [hml]; rfl) (Steps.refl _) (argsL := []) (rest := []) (lenOf pd_4 rfl) rfl (by show 2 * 0 + _ ≤ _; exact Nat.le_of_eq rfl) (hb hby at_58) (fun _ _ => ⟨rfl, rfl, (by decide : 3 + 0 ≤ _), (by decide : 7 + 0 ≤ _)⟩)
    dsimp only [Pt.U, Pt.locs, Pt.cells, Pt.slots] at X18 l18 y18 z18 st18 hQ18
    subst l18 y18 z18
    obtain ⟨hv18, N18q, e18q⟩ := hQ18
    have N18 := Fr.app N16 N18q
    rw [show own_end (0 : Int32) (0 : Int32) = (1 : Int32) from by decide] at hv18
    subst hv18
    have e18 : T18.heap = T16.heap := e18q
    have Vn_20 := ((Vn_10.ext E11).keep K16 (ninS ne_b2_b8 nin0))
    have Vn_21 := (V_b11.keep K16 (ninS (Ne.symm ne_b8_b11) nin0))
    obtain ⟨T22, h22, X22, e22, E22, A22, D22, -, st22⟩ := newO X18 hx hZ hown (hw _ (List.mem_of_getElem? (i := 1) rfl)) (hw _ (List.mem_of_getElem? (i := 2) rfl)) (hw _ (List.mem_of_getElem? (i := 3) rfl)) e18 (g := (mkF m 63 #[iv p1, iv p2, iv p3, iv p4, iv (0 : Int32), rv b2, rv b8, iv (1 : Int32), .unset, .unset] [])) rfl (hb hby at_63) (by decide) (by decide)
    obtain ⟨b22, g22⟩ : ∃ z, z = T16.heap.size := ⟨_, rfl⟩
    rw [← g22] at A22 D22 st22
    have g_b22 : n0 ≤ b22 := Nat.le_trans Zs19 (Nat.le_of_eq g22.symm)
    have sz_b22 : h0.size ≤ b22 := Nat.le_trans ((((((((((Keep.refl h0 []).ext E2).wr W3 (Or.inr sz_b2)).wr W4 (Or.inr sz_b2)).wr W5 (Or.inr sz_b2)).wr W6 (Or.inr sz_b2)).ext E8).ext E11).trans K16 (allS (Or.inr sz_b8) all0))).1 (Nat.le_of_eq g22.symm)
    have ne_b2_b22 : b2 ≠ b22 := Nat.ne_of_lt (Nat.lt_of_lt_of_le Vn_20.lt (Nat.le_of_eq g22.symm))
    have ne_b8_b22 : b8 ≠ b22 := Nat.ne_of_lt (Nat.lt_of_lt_of_le Fe16.lt (Nat.le_of_eq g22.symm))
    have ne_b11_b22 : b11 ≠ b22 := Nat.ne_of_lt (Nat.lt_of_lt_of_le Vn_21.lt (Nat.le_of_eq g22.symm))
    have F__bytes_b22 : Fld Z h22 b22 "com/example/converge/converge/runtime/WireReader" "_bytes" "[B" .null := D22 (Or.inr (hw _ (List.mem_of_getElem? (i := 14) rfl))) (ty := (.array .byte)) (by decide)
    have F__position_b22 : Fld Z h22 b22 "com/example/converge/converge/runtime/WireReader" "_position" "I" (.int (0 : Int32)) := D22 (Or.inl (hw _ (List.mem_of_getElem? (i := 16) rfl))) (ty := .int) (by decide)
    have F__end_b22 : Fld Z h22 b22 "com/example/converge/converge/runtime/WireReader" "_end" "I" (.int (0 : Int32)) := D22 (Or.inr (hw _ (List.mem_of_getElem? (i := 18) rfl))) (ty := .int) (by decide)
    have Vn_23 := (Vn_20.ext E22)
    have Zs25 : n0 ≤ h22.size := (Nat.le_trans Zs19 E22.1)
    obtain ⟨_, _, ⟨T24, L24, k24, n24⟩, -, X24, ⟨Lc24, hQ24, l24, y24, z24⟩, st24⟩ := X22.specialBack hx (y := (⟨"com/example/converge/converge/runtime/WireReader", "<init>", "([B)V"⟩ : MethodName)) rfl hown (mvT hZ (hw _ (List.mem_of_getElem? (i := 4) rfl))) (mvT hZ (hw _ (List.mem_of_getElem? (i := 5) rfl))) (mvT hZ (hw _ (List.mem_of_getElem? (i := 6) rfl))) (by decide) (backOf (W := 1) (rm1 l Z a0 hw [] b22 b2 k2 (4 : Int32) [(.int (nar .byte ((0 : Int32).toInt8.toInt32))), (.int (nar .byte ((p2 &&& (127 : Int32)).toInt8.toInt32))), (.int (nar .byte ((p3 &&& (127 : Int32)).toInt8.toInt32))), (.int (nar .byte ((p4 &&& (127 : Int32)).toInt8.toInt32)))] h22 n0 Zs25 A22 g_b22 F__bytes_b22 F__position_b22 F__end_b22 Vn_23) hZ (hw _ (List.mem_of_getElem? (i := 6) rfl)) (hw _ (List.mem_of_getElem? (i := 3) rfl)) (by decide) (by decide)) (g := (mkF m 69 #[iv p1, iv p2, iv p3, iv p4, iv (0 : Int32), rv b2, rv b8, iv (1 : Int32), .unset, .unset] [(.ref b2), (.ref b22), (.ref b22)])) rfl (by rw [hml]; rfl) (Steps.refl _) (a := b22) (argsL := [(.ref b2)]) (rest := [(.ref b22)]) (lenOf pd_3 rfl) rfl (by show 2 * 0 + _ ≤ _; exact Nat.le_of_eq rfl) (hb hby at_69) (fun _ _ => ⟨rfl, e22, (by decide : 4 + 0 ≤ _), (by decide : 10 + 0 ≤ _)⟩)
    dsimp only [Pt.U, Pt.locs, Pt.cells, Pt.slots] at X24 l24 y24 z24 st24 hQ24
    subst l24 y24 z24
    obtain ⟨rfl, N24q, K24, E24c, Fb24, Fp24, Fe24⟩ := hQ24
    have N24 := Fr.app N18 N24q
    have Zs27 : n0 ≤ T24.heap.size := (Nat.le_trans Zs25 K24.1)
    obtain ⟨cq26, kq26, q26a, q26b, q26c⟩ := isOf hZ rfl E24c
    obtain ⟨_, _, ⟨T26, L26, k26, n26⟩, -, X26, ⟨Lc26, hQ26, l26, y26, z26⟩, st26⟩ := X24.virtualBack hx (y := (⟨"com/example/converge/converge/runtime/WireReader", "isAtEnd", "()Z"⟩ : MethodName)) (z := (⟨"com/example/converge/converge/runtime/WireReader", "isAtEnd", "()Z"⟩ : MethodName)) hown (mvT hZ (hw _ (List.mem_of_getElem? (i := 19) rfl))) (mvT hZ (hw _ (List.mem_of_getElem? (i := 20) rfl))) (notFace_of_selects (args := #[]) (mvT hZ (hw _ (List.mem_of_getElem? (i := 22) rfl)))) (mvT hZ (hw _ (List.mem_of_getElem? (i := 22) rfl))) (mvT hZ (hw _ (List.mem_of_getElem? (i := 21) rfl))) (by decide) (backOf (W := 0) (rm4 l Z a0 hw [] b22 (0 : Int32) (4 : Int32) T24.heap n0 Zs27 Fp24 Fe24) hZ (hw _ (List.mem_of_getElem? (i := 23) rfl)) (hw _ (List.mem_of_getElem? (i := 3) rfl)) (by decide) (by decide)) q26a q26c (g := (mkF m 81 #[iv p1, iv p2, iv p3, iv p4, iv (0 : Int32), rv b2, rv b8, iv (1 : Int32), rv b22, .unset] [(.ref b22)])) rfl (by rw [hml]; rfl) (Steps.refl _) (argsL := []) (rest := []) (lenOf pd_4 rfl) rfl (by show 2 * 0 + _ ≤ _; exact Nat.le_of_eq rfl) (hb hby at_81) (fun _ _ => ⟨rfl, rfl, (by decide : 4 + 0 ≤ _), (by decide : 10 + 0 ≤ _)⟩)
    dsimp only [Pt.U, Pt.locs, Pt.cells, Pt.slots] at X26 l26 y26 z26 st26 hQ26
    subst l26 y26 z26
    obtain ⟨hv26, N26q, e26q⟩ := hQ26
    have N26 := Fr.app N24 N26q
    rw [show own_end (0 : Int32) (4 : Int32) = (0 : Int32) from by decide] at hv26
    subst hv26
    have e26 : T26.heap = T24.heap := e26q
    have Vn_28 := (Vn_23.keep K24 (ninS ne_b2_b22 nin0))
    have En_29 := ((E16c.ext E22).keep K24)
    obtain ⟨cq30, kq30, q30a, q30b, q30c⟩ := isOf hZ e26 E24c
    obtain ⟨_, _, ⟨T30, L30, k30, n30⟩, -, X30, ⟨Lc30, hQ30, l30, y30, z30⟩, st30⟩ := X26.virtualBack hx (y := (⟨"com/example/converge/converge/runtime/WireReader", "readEmbedded", "()Lcom/example/converge/converge/runtime/WireReader;"⟩ : MethodName)) (z := (⟨"com/example/converge/converge/runtime/WireReader", "readEmbedded", "()Lcom/example/converge/converge/runtime/WireReader;"⟩ : MethodName)) hown (mvT hZ (hw _ (List.mem_of_getElem? (i := 24) rfl))) (mvT hZ (hw _ (List.mem_of_getElem? (i := 25) rfl))) (notFace_of_selects (args := #[]) (mvT hZ (hw _ (List.mem_of_getElem? (i := 27) rfl)))) (mvT hZ (hw _ (List.mem_of_getElem? (i := 27) rfl))) (mvT hZ (hw _ (List.mem_of_getElem? (i := 26) rfl))) (by decide) (backOf (W := 0) (rm5 l Z a0 hw [] b22 b2 (0 : Int32) (4 : Int32) k2 (4 : Int32) [(.int (nar .byte ((0 : Int32).toInt8.toInt32))), (.int (nar .byte ((p2 &&& (127 : Int32)).toInt8.toInt32))), (.int (nar .byte ((p3 &&& (127 : Int32)).toInt8.toInt32))), (.int (nar .byte ((p4 &&& (127 : Int32)).toInt8.toInt32)))] (nar .byte ((0 : Int32).toInt8.toInt32)) T24.heap n0 Zs27 E24c g_b22 Fb24 Fp24 Fe24 Vn_28 (by decide) ⟨by decide, by decide⟩ rfl (by decide +kernel) ne_b2_b22 (by decide +kernel) (by decide +kernel)) hZ (hw _ (List.mem_of_getElem? (i := 28) rfl)) (hw _ (List.mem_of_getElem? (i := 3) rfl)) (by decide) (by decide)) q30a q30c (g := (mkF m 96 #[iv p1, iv p2, iv p3, iv p4, iv (0 : Int32), rv b2, rv b8, iv (1 : Int32), rv b22, .unset] [(.ref b22)])) rfl (by rw [hml]; rfl) (Steps.refl _) (argsL := []) (rest := []) (lenOf pd_5 rfl) rfl (by show 2 * 0 + _ ≤ _; exact Nat.le_of_eq rfl) (hb hby at_96) (fun _ _ => ⟨rfl, e26, (by decide : 4 + 1 ≤ _), (by decide : 10 + 3 ≤ _)⟩)
    dsimp only [Pt.U, Pt.locs, Pt.cells, Pt.slots] at X30 l30 y30 z30 st30 hQ30
    subst l30 y30 z30
    obtain ⟨b30, rfl, N30q, K30, E30c, Fb30, Fp30, Fe30, g_b30, sz_b30, E30d, Gb30, Gp30, Ge30⟩ := hQ30
    have N30 := Fr.app N26 N30q
    rw [show (((0 : Int32) + (1 : Int32)) + (own_val (nar .byte ((0 : Int32).toInt8.toInt32))).toInt32) = (1 : Int32) from by decide +kernel] at Fp30 Ge30
    rw [show ((0 : Int32) + (1 : Int32)) = (1 : Int32) from by decide] at Gp30
    have ne_b22_b30 : b22 ≠ b30 := Nat.ne_of_lt (Nat.lt_of_lt_of_le E24c.lt sz_b30)
    have ne_b2_b30 : b2 ≠ b30 := Nat.ne_of_lt (Nat.lt_of_lt_of_le Vn_28.lt sz_b30)
    have ne_b8_b30 : b8 ≠ b30 := Nat.ne_of_lt (Nat.lt_of_lt_of_le En_29.lt sz_b30)
    have Zs32 : n0 ≤ T30.heap.size := (Nat.le_trans Zs27 K30.1)
    obtain ⟨cq31, kq31, q31a, q31b, q31c⟩ := isOf hZ rfl E30c
    obtain ⟨_, _, ⟨T31, L31, k31, n31⟩, -, X31, ⟨Lc31, hQ31, l31, y31, z31⟩, st31⟩ := X30.virtualBack hx (y := (⟨"com/example/converge/converge/runtime/WireReader", "isAtEnd", "()Z"⟩ : MethodName)) (z := (⟨"com/example/converge/converge/runtime/WireReader", "isAtEnd", "()Z"⟩ : MethodName)) hown (mvT hZ (hw _ (List.mem_of_getElem? (i := 19) rfl))) (mvT hZ (hw _ (List.mem_of_getElem? (i := 20) rfl))) (notFace_of_selects (args := #[]) (mvT hZ (hw _ (List.mem_of_getElem? (i := 22) rfl)))) (mvT hZ (hw _ (List.mem_of_getElem? (i := 22) rfl))) (mvT hZ (hw _ (List.mem_of_getElem? (i := 21) rfl))) (by decide) (backOf (W := 0) (rm4 l Z a0 hw [] b22 (1 : Int32) (4 : Int32) T30.heap n0 Zs32 Fp30 Fe30) hZ (hw _ (List.mem_of_getElem? (i := 23) rfl)) (hw _ (List.mem_of_getElem? (i := 3) rfl)) (by decide) (by decide)) q31a q31c (g := (mkF m 108 #[iv p1, iv p2, iv p3, iv p4, iv (0 : Int32), rv b2, rv b8, iv (1 : Int32), rv b22, rv b30] [(.ref b22)])) rfl (by rw [hml]; rfl) (Steps.refl _) (argsL := []) (rest := []) (lenOf pd_4 rfl) rfl (by show 2 * 0 + _ ≤ _; exact Nat.le_of_eq rfl) (hb hby at_108) (fun _ _ => ⟨rfl, rfl, (by decide : 5 + 0 ≤ _), (by decide : 13 + 0 ≤ _)⟩)
    dsimp only [Pt.U, Pt.locs, Pt.cells, Pt.slots] at X31 l31 y31 z31 st31 hQ31
    subst l31 y31 z31
    obtain ⟨hv31, N31q, e31q⟩ := hQ31
    have N31 := Fr.app N30 N31q
    rw [show own_end (1 : Int32) (4 : Int32) = (0 : Int32) from by decide] at hv31
    subst hv31
    have e31 : T31.heap = T30.heap := e31q
    obtain ⟨cq33, kq33, q33a, q33b, q33c⟩ := isOf hZ e31 E30d
    obtain ⟨_, _, ⟨T33, L33, k33, n33⟩, -, X33, ⟨Lc33, hQ33, l33, y33, z33⟩, st33⟩ := X31.virtualBack hx (y := (⟨"com/example/converge/converge/runtime/WireReader", "isAtEnd", "()Z"⟩ : MethodName)) (z := (⟨"com/example/converge/converge/runtime/WireReader", "isAtEnd", "()Z"⟩ : MethodName)) hown (mvT hZ (hw _ (List.mem_of_getElem? (i := 19) rfl))) (mvT hZ (hw _ (List.mem_of_getElem? (i := 20) rfl))) (notFace_of_selects (args := #[]) (mvT hZ (hw _ (List.mem_of_getElem? (i := 22) rfl)))) (mvT hZ (hw _ (List.mem_of_getElem? (i := 22) rfl))) (mvT hZ (hw _ (List.mem_of_getElem? (i := 21) rfl))) (by decide) (backOf (W := 0) (rm4 l Z a0 hw [] b30 (1 : Int32) (1 : Int32) T30.heap n0 Zs32 Gp30 Ge30) hZ (hw _ (List.mem_of_getElem? (i := 23) rfl)) (hw _ (List.mem_of_getElem? (i := 3) rfl)) (by decide) (by decide)) q33a q33c (g := (mkF m 127 #[iv p1, iv p2, iv p3, iv p4, iv (0 : Int32), rv b2, rv b8, iv (1 : Int32), rv b22, rv b30] [(.ref b30)])) rfl (by rw [hml]; rfl) (Steps.refl _) (argsL := []) (rest := []) (lenOf pd_4 rfl) rfl (by show 2 * 0 + _ ≤ _; exact Nat.le_of_eq rfl) (hb hby at_127) (fun _ _ => ⟨rfl, e31, (by decide : 5 + 0 ≤ _), (by decide : 13 + 0 ≤ _)⟩)
    dsimp only [Pt.U, Pt.locs, Pt.cells, Pt.slots] at X33 l33 y33 z33 st33 hQ33
    subst l33 y33 z33
    obtain ⟨hv33, N33q, e33q⟩ := hQ33
    have N33 := Fr.app N31 N33q
    rw [show own_end (1 : Int32) (1 : Int32) = (1 : Int32) from by decide] at hv33
    subst hv33
    have e33 : T33.heap = T30.heap := e33q
    have Vn_34 := (Vn_28.keep K30 (ninS ne_b2_b22 nin0))
    obtain ⟨cq35, kq35, q35a, q35b, q35c⟩ := isOf hZ e33 E30c
    obtain ⟨_, _, ⟨T35, L35, k35, n35⟩, -, X35, ⟨Lc35, hQ35, l35, y35, z35⟩, st35⟩ := X33.virtualBack hx (y := (⟨"com/example/converge/converge/runtime/WireReader", "readVarint", "()J"⟩ : MethodName)) (z := (⟨"com/example/converge/converge/runtime/WireReader", "readVarint", "()J"⟩ : MethodName)) hown (mvT hZ (hw _ (List.mem_of_getElem? (i := 39) rfl))) (mvT hZ (hw _ (List.mem_of_getElem? (i := 34) rfl))) (notFace_of_selects (args := #[]) (mvT hZ (hw _ (List.mem_of_getElem? (i := 36) rfl)))) (mvT hZ (hw _ (List.mem_of_getElem? (i := 36) rfl))) (mvT hZ (hw _ (List.mem_of_getElem? (i := 35) rfl))) (by decide) (backOf (W := 0) (rm7 l Z a0 hw [] b22 b2 (1 : Int32) (4 : Int32) k2 (4 : Int32) [(.int (nar .byte ((0 : Int32).toInt8.toInt32))), (.int (nar .byte ((p2 &&& (127 : Int32)).toInt8.toInt32))), (.int (nar .byte ((p3 &&& (127 : Int32)).toInt8.toInt32))), (.int (nar .byte ((p4 &&& (127 : Int32)).toInt8.toInt32)))] (nar .byte ((p2 &&& (127 : Int32)).toInt8.toInt32)) T30.heap n0 Zs32 E30c g_b22 Fb30 Fp30 Fe30 Vn_34 (by decide) ⟨by decide, by decide⟩ rfl (own_nb _)) hZ (hw _ (List.mem_of_getElem? (i := 37) rfl)) (hw _ (List.mem_of_getElem? (i := 3) rfl)) (by decide) (by decide)) q35a q35c (g := (mkF m 201 #[iv p1, iv p2, iv p3, iv p4, iv (0 : Int32), rv b2, rv b8, iv (1 : Int32), rv b22, rv b30] [(.ref b22)])) rfl (by rw [hml]; rfl) (Steps.refl _) (argsL := []) (rest := []) (lenOf pd_1 rfl) rfl (by show 2 * 0 + _ ≤ _; exact Nat.le_of_eq rfl) (hb hby at_201) (fun _ _ => ⟨rfl, e33, (by decide : 5 + 0 ≤ _), (by decide : 13 + 0 ≤ _)⟩)
    dsimp only [Pt.U, Pt.locs, Pt.cells, Pt.slots] at X35 l35 y35 z35 st35 hQ35
    subst l35 y35 z35
    obtain ⟨rfl, N35q, K35, E35c, Fb35, Fp35, Fe35⟩ := hQ35
    have N35 := Fr.app N33 N35q
    rw [show ((1 : Int32) + (1 : Int32)) = (2 : Int32) from by decide] at Fp35
    have Zs37 : n0 ≤ T35.heap.size := (Nat.le_trans Zs32 K35.1)
    obtain ⟨cq36, kq36, q36a, q36b, q36c⟩ := isOf hZ rfl E35c
    obtain ⟨_, _, ⟨T36, L36, k36, n36⟩, -, X36, ⟨Lc36, hQ36, l36, y36, z36⟩, st36⟩ := X35.virtualBack hx (y := (⟨"com/example/converge/converge/runtime/WireReader", "isAtEnd", "()Z"⟩ : MethodName)) (z := (⟨"com/example/converge/converge/runtime/WireReader", "isAtEnd", "()Z"⟩ : MethodName)) hown (mvT hZ (hw _ (List.mem_of_getElem? (i := 19) rfl))) (mvT hZ (hw _ (List.mem_of_getElem? (i := 20) rfl))) (notFace_of_selects (args := #[]) (mvT hZ (hw _ (List.mem_of_getElem? (i := 22) rfl)))) (mvT hZ (hw _ (List.mem_of_getElem? (i := 22) rfl))) (mvT hZ (hw _ (List.mem_of_getElem? (i := 21) rfl))) (by decide) (backOf (W := 0) (rm4 l Z a0 hw [] b22 (2 : Int32) (4 : Int32) T35.heap n0 Zs37 Fp35 Fe35) hZ (hw _ (List.mem_of_getElem? (i := 23) rfl)) (hw _ (List.mem_of_getElem? (i := 3) rfl)) (by decide) (by decide)) q36a q36c (g := (mkF m 212 #[iv p1, iv p2, iv p3, iv p4, iv (0 : Int32), rv b2, rv b8, iv (1 : Int32), rv b22, rv b30] [(.ref b22)])) rfl (by rw [hml]; rfl) (Steps.refl _) (argsL := []) (rest := []) (lenOf pd_4 rfl) rfl (by show 2 * 0 + _ ≤ _; exact Nat.le_of_eq rfl) (hb hby at_212) (fun _ _ => ⟨rfl, rfl, (by decide : 5 + 0 ≤ _), (by decide : 13 + 0 ≤ _)⟩)
    dsimp only [Pt.U, Pt.locs, Pt.cells, Pt.slots] at X36 l36 y36 z36 st36 hQ36
    subst l36 y36 z36
    obtain ⟨hv36, N36q, e36q⟩ := hQ36
    have N36 := Fr.app N35 N36q
    rw [show own_end (2 : Int32) (4 : Int32) = (0 : Int32) from by decide] at hv36
    subst hv36
    have e36 : T36.heap = T35.heap := e36q
    have pre38 : ∀ t, own_S p e below T36 m 238 #[iv p1, iv p2, iv p3, iv p4, iv (0 : Int32), rv b2, rv b8, iv (1 : Int32), rv b22, rv b30] [(.int (1 : Int32))] t → Steps p.tables e below (s₁.setTop (entryFrame m #[(.int p1), (.int p2), (.int p3), (.int p4)] maxLocals)) t := fun t k => pre1 t (by
      show own_S p e below s₁ m 5 #[iv p1, iv p2, iv p3, iv p4, iv (0 : Int32), .unset, .unset, .unset, .unset, .unset] [] _
      refine XS.iconst X0.here hx rfl (hb hby at_5) ?_
      show own_S p e below s₁ m 6 #[iv p1, iv p2, iv p3, iv p4, iv (0 : Int32), .unset, .unset, .unset, .unset, .unset] [(.int (4 : Int32))] _
      refine st2 _ ?_
      show own_S p e below T2 m 8 #[iv p1, iv p2, iv p3, iv p4, iv (0 : Int32), .unset, .unset, .unset, .unset, .unset] [(.ref b2)] _
      refine XS.astore X2.here hx rfl (hb hby at_8) rfl rfl (l' := #[iv p1, iv p2, iv p3, iv p4, iv (0 : Int32), rv b2, .unset, .unset, .unset, .unset]) rfl ?_
      show own_S p e below T2 m 10 #[iv p1, iv p2, iv p3, iv p4, iv (0 : Int32), rv b2, .unset, .unset, .unset, .unset] [] _
      refine XS.aload X2.here hx rfl (hb hby at_10) rfl rfl ?_
      show own_S p e below T2 m 12 #[iv p1, iv p2, iv p3, iv p4, iv (0 : Int32), rv b2, .unset, .unset, .unset, .unset] [(.ref b2)] _
      refine XS.iconst X2.here hx rfl (hb hby at_12) ?_
      show own_S p e below T2 m 13 #[iv p1, iv p2, iv p3, iv p4, iv (0 : Int32), rv b2, .unset, .unset, .unset, .unset] [(.int (0 : Int32)), (.ref b2)] _
      refine XS.iload X2.here hx rfl (hb hby at_13) rfl ?_
      show own_S p e below T2 m 15 #[iv p1, iv p2, iv p3, iv p4, iv (0 : Int32), rv b2, .unset, .unset, .unset, .unset] [(.int (0 : Int32)), (.int (0 : Int32)), (.ref b2)] _
      refine XS.i2b X2.here hx rfl (hb hby at_15) rfl ?_
      show own_S p e below T2 m 16 #[iv p1, iv p2, iv p3, iv p4, iv (0 : Int32), rv b2, .unset, .unset, .unset, .unset] [(.int ((0 : Int32).toInt8.toInt32)), (.int (0 : Int32)), (.ref b2)] _
      refine st3 _ ?_
      show own_S p e below T3 m 17 #[iv p1, iv p2, iv p3, iv p4, iv (0 : Int32), rv b2, .unset, .unset, .unset, .unset] [] _
      refine XS.aload X3.here hx rfl (hb hby at_17) rfl rfl ?_
      show own_S p e below T3 m 19 #[iv p1, iv p2, iv p3, iv p4, iv (0 : Int32), rv b2, .unset, .unset, .unset, .unset] [(.ref b2)] _
      refine XS.iconst X3.here hx rfl (hb hby at_19) ?_
      show own_S p e below T3 m 20 #[iv p1, iv p2, iv p3, iv p4, iv (0 : Int32), rv b2, .unset, .unset, .unset, .unset] [(.int (1 : Int32)), (.ref b2)] _
      refine XS.iloadN X3.here hx rfl (hb hby at_20) rfl ?_
      show own_S p e below T3 m 21 #[iv p1, iv p2, iv p3, iv p4, iv (0 : Int32), rv b2, .unset, .unset, .unset, .unset] [(.int p2), (.int (1 : Int32)), (.ref b2)] _
      refine XS.bipush X3.here hx rfl (hb hby at_21) ?_
      show own_S p e below T3 m 23 #[iv p1, iv p2, iv p3, iv p4, iv (0 : Int32), rv b2, .unset, .unset, .unset, .unset] [(.int (127 : Int32)), (.int p2), (.int (1 : Int32)), (.ref b2)] _
      refine XS.iand X3.here hx rfl (hb hby at_23) rfl ?_
      show own_S p e below T3 m 24 #[iv p1, iv p2, iv p3, iv p4, iv (0 : Int32), rv b2, .unset, .unset, .unset, .unset] [(.int (p2 &&& (127 : Int32))), (.int (1 : Int32)), (.ref b2)] _
      refine XS.i2b X3.here hx rfl (hb hby at_24) rfl ?_
      show own_S p e below T3 m 25 #[iv p1, iv p2, iv p3, iv p4, iv (0 : Int32), rv b2, .unset, .unset, .unset, .unset] [(.int ((p2 &&& (127 : Int32)).toInt8.toInt32)), (.int (1 : Int32)), (.ref b2)] _
      refine st4 _ ?_
      show own_S p e below T4 m 26 #[iv p1, iv p2, iv p3, iv p4, iv (0 : Int32), rv b2, .unset, .unset, .unset, .unset] [] _
      refine XS.aload X4.here hx rfl (hb hby at_26) rfl rfl ?_
      show own_S p e below T4 m 28 #[iv p1, iv p2, iv p3, iv p4, iv (0 : Int32), rv b2, .unset, .unset, .unset, .unset] [(.ref b2)] _
      refine XS.iconst X4.here hx rfl (hb hby at_28) ?_
      show own_S p e below T4 m 29 #[iv p1, iv p2, iv p3, iv p4, iv (0 : Int32), rv b2, .unset, .unset, .unset, .unset] [(.int (2 : Int32)), (.ref b2)] _
      refine XS.iloadN X4.here hx rfl (hb hby at_29) rfl ?_
      show own_S p e below T4 m 30 #[iv p1, iv p2, iv p3, iv p4, iv (0 : Int32), rv b2, .unset, .unset, .unset, .unset] [(.int p3), (.int (2 : Int32)), (.ref b2)] _
      refine XS.bipush X4.here hx rfl (hb hby at_30) ?_
      show own_S p e below T4 m 32 #[iv p1, iv p2, iv p3, iv p4, iv (0 : Int32), rv b2, .unset, .unset, .unset, .unset] [(.int (127 : Int32)), (.int p3), (.int (2 : Int32)), (.ref b2)] _
      refine XS.iand X4.here hx rfl (hb hby at_32) rfl ?_
      show own_S p e below T4 m 33 #[iv p1, iv p2, iv p3, iv p4, iv (0 : Int32), rv b2, .unset, .unset, .unset, .unset] [(.int (p3 &&& (127 : Int32))), (.int (2 : Int32)), (.ref b2)] _
      refine XS.i2b X4.here hx rfl (hb hby at_33) rfl ?_
      show own_S p e below T4 m 34 #[iv p1, iv p2, iv p3, iv p4, iv (0 : Int32), rv b2, .unset, .unset, .unset, .unset] [(.int ((p3 &&& (127 : Int32)).toInt8.toInt32)), (.int (2 : Int32)), (.ref b2)] _
      refine st5 _ ?_
      show own_S p e below T5 m 35 #[iv p1, iv p2, iv p3, iv p4, iv (0 : Int32), rv b2, .unset, .unset, .unset, .unset] [] _
      refine XS.aload X5.here hx rfl (hb hby at_35) rfl rfl ?_
      show own_S p e below T5 m 37 #[iv p1, iv p2, iv p3, iv p4, iv (0 : Int32), rv b2, .unset, .unset, .unset, .unset] [(.ref b2)] _
      refine XS.iconst X5.here hx rfl (hb hby at_37) ?_
      show own_S p e below T5 m 38 #[iv p1, iv p2, iv p3, iv p4, iv (0 : Int32), rv b2, .unset, .unset, .unset, .unset] [(.int (3 : Int32)), (.ref b2)] _
      refine XS.iloadN X5.here hx rfl (hb hby at_38) rfl ?_
      show own_S p e below T5 m 39 #[iv p1, iv p2, iv p3, iv p4, iv (0 : Int32), rv b2, .unset, .unset, .unset, .unset] [(.int p4), (.int (3 : Int32)), (.ref b2)] _
      refine XS.bipush X5.here hx rfl (hb hby at_39) ?_
      show own_S p e below T5 m 41 #[iv p1, iv p2, iv p3, iv p4, iv (0 : Int32), rv b2, .unset, .unset, .unset, .unset] [(.int (127 : Int32)), (.int p4), (.int (3 : Int32)), (.ref b2)] _
      refine XS.iand X5.here hx rfl (hb hby at_41) rfl ?_
      show own_S p e below T5 m 42 #[iv p1, iv p2, iv p3, iv p4, iv (0 : Int32), rv b2, .unset, .unset, .unset, .unset] [(.int (p4 &&& (127 : Int32))), (.int (3 : Int32)), (.ref b2)] _
      refine XS.i2b X5.here hx rfl (hb hby at_42) rfl ?_
      show own_S p e below T5 m 43 #[iv p1, iv p2, iv p3, iv p4, iv (0 : Int32), rv b2, .unset, .unset, .unset, .unset] [(.int ((p4 &&& (127 : Int32)).toInt8.toInt32)), (.int (3 : Int32)), (.ref b2)] _
      refine st6 _ ?_
      show own_S p e below T6 m 44 #[iv p1, iv p2, iv p3, iv p4, iv (0 : Int32), rv b2, .unset, .unset, .unset, .unset] [] _
      refine st8 _ ?_
      show own_S p e below T8 m 47 #[iv p1, iv p2, iv p3, iv p4, iv (0 : Int32), rv b2, .unset, .unset, .unset, .unset] [(.ref b8)] _
      refine XS.dup X8.here hx rfl (hb hby at_47) rfl rfl ?_
      show own_S p e below T8 m 48 #[iv p1, iv p2, iv p3, iv p4, iv (0 : Int32), rv b2, .unset, .unset, .unset, .unset] [(.ref b8), (.ref b8)] _
      refine XS.iconst X8.here hx rfl (hb hby at_48) ?_
      show own_S p e below T8 m 49 #[iv p1, iv p2, iv p3, iv p4, iv (0 : Int32), rv b2, .unset, .unset, .unset, .unset] [(.int (0 : Int32)), (.ref b8), (.ref b8)] _
      refine st11 _ ?_
      show own_S p e below T11 m 51 #[iv p1, iv p2, iv p3, iv p4, iv (0 : Int32), rv b2, .unset, .unset, .unset, .unset] [(.ref b11), (.ref b8), (.ref b8)] _
      refine st16.trans ?_
      show own_S p e below T16 m 54 #[iv p1, iv p2, iv p3, iv p4, iv (0 : Int32), rv b2, .unset, .unset, .unset, .unset] [(.ref b8)] _
      refine XS.astore X16.here hx rfl (hb hby at_54) rfl rfl (l' := #[iv p1, iv p2, iv p3, iv p4, iv (0 : Int32), rv b2, rv b8, .unset, .unset, .unset]) rfl ?_
      show own_S p e below T16 m 56 #[iv p1, iv p2, iv p3, iv p4, iv (0 : Int32), rv b2, rv b8, .unset, .unset, .unset] [] _
      refine XS.aload X16.here hx rfl (hb hby at_56) rfl rfl ?_
      show own_S p e below T16 m 58 #[iv p1, iv p2, iv p3, iv p4, iv (0 : Int32), rv b2, rv b8, .unset, .unset, .unset] [(.ref b8)] _
      refine st18.trans ?_
      show own_S p e below T18 m 61 #[iv p1, iv p2, iv p3, iv p4, iv (0 : Int32), rv b2, rv b8, .unset, .unset, .unset] [(.int (1 : Int32))] _
      refine XS.istore X18.here hx rfl (hb hby at_61) rfl (l' := #[iv p1, iv p2, iv p3, iv p4, iv (0 : Int32), rv b2, rv b8, iv (1 : Int32), .unset, .unset]) rfl ?_
      show own_S p e below T18 m 63 #[iv p1, iv p2, iv p3, iv p4, iv (0 : Int32), rv b2, rv b8, iv (1 : Int32), .unset, .unset] [] _
      refine st22 _ ?_
      show own_S p e below T22 m 66 #[iv p1, iv p2, iv p3, iv p4, iv (0 : Int32), rv b2, rv b8, iv (1 : Int32), .unset, .unset] [(.ref b22)] _
      refine XS.dup X22.here hx rfl (hb hby at_66) rfl rfl ?_
      show own_S p e below T22 m 67 #[iv p1, iv p2, iv p3, iv p4, iv (0 : Int32), rv b2, rv b8, iv (1 : Int32), .unset, .unset] [(.ref b22), (.ref b22)] _
      refine XS.aload X22.here hx rfl (hb hby at_67) rfl rfl ?_
      show own_S p e below T22 m 69 #[iv p1, iv p2, iv p3, iv p4, iv (0 : Int32), rv b2, rv b8, iv (1 : Int32), .unset, .unset] [(.ref b2), (.ref b22), (.ref b22)] _
      refine st24.trans ?_
      show own_S p e below T24 m 72 #[iv p1, iv p2, iv p3, iv p4, iv (0 : Int32), rv b2, rv b8, iv (1 : Int32), .unset, .unset] [(.ref b22)] _
      refine XS.astore X24.here hx rfl (hb hby at_72) rfl rfl (l' := #[iv p1, iv p2, iv p3, iv p4, iv (0 : Int32), rv b2, rv b8, iv (1 : Int32), rv b22, .unset]) rfl ?_
      show own_S p e below T24 m 74 #[iv p1, iv p2, iv p3, iv p4, iv (0 : Int32), rv b2, rv b8, iv (1 : Int32), rv b22, .unset] [] _
      refine XS.iload X24.here hx rfl (hb hby at_74) rfl ?_
      show own_S p e below T24 m 76 #[iv p1, iv p2, iv p3, iv p4, iv (0 : Int32), rv b2, rv b8, iv (1 : Int32), rv b22, .unset] [(.int (1 : Int32))] _
      refine XS.ifNo X24.here hx rfl (hb hby at_76) rfl ((if0 _ _).trans (feq (by decide : ¬ ((1 : Int32) = (0 : Int32)))).1) ?_
      show own_S p e below T24 m 79 #[iv p1, iv p2, iv p3, iv p4, iv (0 : Int32), rv b2, rv b8, iv (1 : Int32), rv b22, .unset] [] _
      refine XS.aload X24.here hx rfl (hb hby at_79) rfl rfl ?_
      show own_S p e below T24 m 81 #[iv p1, iv p2, iv p3, iv p4, iv (0 : Int32), rv b2, rv b8, iv (1 : Int32), rv b22, .unset] [(.ref b22)] _
      refine st26.trans ?_
      show own_S p e below T26 m 84 #[iv p1, iv p2, iv p3, iv p4, iv (0 : Int32), rv b2, rv b8, iv (1 : Int32), rv b22, .unset] [(.int (0 : Int32))] _
      refine XS.ifNo X26.here hx rfl (hb hby at_84) rfl ((if0 _ _).trans (teq (by decide : (0 : Int32) = (0 : Int32))).2) ?_
      show own_S p e below T26 m 87 #[iv p1, iv p2, iv p3, iv p4, iv (0 : Int32), rv b2, rv b8, iv (1 : Int32), rv b22, .unset] [] _
      refine XS.iconst X26.here hx rfl (hb hby at_87) ?_
      show own_S p e below T26 m 88 #[iv p1, iv p2, iv p3, iv p4, iv (0 : Int32), rv b2, rv b8, iv (1 : Int32), rv b22, .unset] [(.int (1 : Int32))] _
      refine XS.goto X26.here hx rfl (pc0 := 88) (pc' := 92) rfl (hb hby at_88) (by decide) (by decide) ?_
      show own_S p e below T26 m 92 #[iv p1, iv p2, iv p3, iv p4, iv (0 : Int32), rv b2, rv b8, iv (1 : Int32), rv b22, .unset] [(.int (1 : Int32))] _
      refine XS.istore X26.here hx rfl (hb hby at_92) rfl (l' := #[iv p1, iv p2, iv p3, iv p4, iv (0 : Int32), rv b2, rv b8, iv (1 : Int32), rv b22, .unset]) rfl ?_
      show own_S p e below T26 m 94 #[iv p1, iv p2, iv p3, iv p4, iv (0 : Int32), rv b2, rv b8, iv (1 : Int32), rv b22, .unset] [] _
      refine XS.aload X26.here hx rfl (hb hby at_94) rfl rfl ?_
      show own_S p e below T26 m 96 #[iv p1, iv p2, iv p3, iv p4, iv (0 : Int32), rv b2, rv b8, iv (1 : Int32), rv b22, .unset] [(.ref b22)] _
      refine st30.trans ?_
      show own_S p e below T30 m 99 #[iv p1, iv p2, iv p3, iv p4, iv (0 : Int32), rv b2, rv b8, iv (1 : Int32), rv b22, .unset] [(.ref b30)] _
      refine XS.astore X30.here hx rfl (hb hby at_99) rfl rfl (l' := #[iv p1, iv p2, iv p3, iv p4, iv (0 : Int32), rv b2, rv b8, iv (1 : Int32), rv b22, rv b30]) rfl ?_
      show own_S p e below T30 m 101 #[iv p1, iv p2, iv p3, iv p4, iv (0 : Int32), rv b2, rv b8, iv (1 : Int32), rv b22, rv b30] [] _
      refine XS.iload X30.here hx rfl (hb hby at_101) rfl ?_
      show own_S p e below T30 m 103 #[iv p1, iv p2, iv p3, iv p4, iv (0 : Int32), rv b2, rv b8, iv (1 : Int32), rv b22, rv b30] [(.int (1 : Int32))] _
      refine XS.ifNo X30.here hx rfl (hb hby at_103) rfl ((if0 _ _).trans (feq (by decide : ¬ ((1 : Int32) = (0 : Int32)))).1) ?_
      show own_S p e below T30 m 106 #[iv p1, iv p2, iv p3, iv p4, iv (0 : Int32), rv b2, rv b8, iv (1 : Int32), rv b22, rv b30] [] _
      refine XS.aload X30.here hx rfl (hb hby at_106) rfl rfl ?_
      show own_S p e below T30 m 108 #[iv p1, iv p2, iv p3, iv p4, iv (0 : Int32), rv b2, rv b8, iv (1 : Int32), rv b22, rv b30] [(.ref b22)] _
      refine st31.trans ?_
      show own_S p e below T31 m 111 #[iv p1, iv p2, iv p3, iv p4, iv (0 : Int32), rv b2, rv b8, iv (1 : Int32), rv b22, rv b30] [(.int (0 : Int32))] _
      refine XS.iload X31.here hx rfl (hb hby at_111) rfl ?_
      show own_S p e below T31 m 113 #[iv p1, iv p2, iv p3, iv p4, iv (0 : Int32), rv b2, rv b8, iv (1 : Int32), rv b22, rv b30] [(.int (0 : Int32)), (.int (0 : Int32))] _
      refine XS.iconst X31.here hx rfl (hb hby at_113) ?_
      show own_S p e below T31 m 114 #[iv p1, iv p2, iv p3, iv p4, iv (0 : Int32), rv b2, rv b8, iv (1 : Int32), rv b22, rv b30] [(.int (3 : Int32)), (.int (0 : Int32)), (.int (0 : Int32))] _
      refine XS.icmpYes X31.here hx rfl (pc0 := 114) (pc' := 121) rfl (hb hby at_114) rfl (feq (by decide : ¬ ((0 : Int32) = (3 : Int32)))).2 (by decide) (by decide) ?_
      show own_S p e below T31 m 121 #[iv p1, iv p2, iv p3, iv p4, iv (0 : Int32), rv b2, rv b8, iv (1 : Int32), rv b22, rv b30] [(.int (0 : Int32))] _
      refine XS.iconst X31.here hx rfl (hb hby at_121) ?_
      show own_S p e below T31 m 122 #[iv p1, iv p2, iv p3, iv p4, iv (0 : Int32), rv b2, rv b8, iv (1 : Int32), rv b22, rv b30] [(.int (0 : Int32)), (.int (0 : Int32))] _
      refine XS.icmpNo X31.here hx rfl (hb hby at_122) rfl (teq (by decide : (0 : Int32) = (0 : Int32))).2 ?_
      show own_S p e below T31 m 125 #[iv p1, iv p2, iv p3, iv p4, iv (0 : Int32), rv b2, rv b8, iv (1 : Int32), rv b22, rv b30] [] _
      refine XS.aload X31.here hx rfl (hb hby at_125) rfl rfl ?_
      show own_S p e below T31 m 127 #[iv p1, iv p2, iv p3, iv p4, iv (0 : Int32), rv b2, rv b8, iv (1 : Int32), rv b22, rv b30] [(.ref b30)] _
      refine st33.trans ?_
      show own_S p e below T33 m 130 #[iv p1, iv p2, iv p3, iv p4, iv (0 : Int32), rv b2, rv b8, iv (1 : Int32), rv b22, rv b30] [(.int (1 : Int32))] _
      refine XS.iload X33.here hx rfl (hb hby at_130) rfl ?_
      show own_S p e below T33 m 132 #[iv p1, iv p2, iv p3, iv p4, iv (0 : Int32), rv b2, rv b8, iv (1 : Int32), rv b22, rv b30] [(.int (0 : Int32)), (.int (1 : Int32))] _
      refine XS.ifNo X33.here hx rfl (hb hby at_132) rfl ((if0 _ _).trans (teq (by decide : (0 : Int32) = (0 : Int32))).2) ?_
      show own_S p e below T33 m 135 #[iv p1, iv p2, iv p3, iv p4, iv (0 : Int32), rv b2, rv b8, iv (1 : Int32), rv b22, rv b30] [(.int (1 : Int32))] _
      refine XS.iconst X33.here hx rfl (hb hby at_135) ?_
      show own_S p e below T33 m 136 #[iv p1, iv p2, iv p3, iv p4, iv (0 : Int32), rv b2, rv b8, iv (1 : Int32), rv b22, rv b30] [(.int (1 : Int32)), (.int (1 : Int32))] _
      refine XS.goto X33.here hx rfl (pc0 := 136) (pc' := 140) rfl (hb hby at_136) (by decide) (by decide) ?_
      show own_S p e below T33 m 140 #[iv p1, iv p2, iv p3, iv p4, iv (0 : Int32), rv b2, rv b8, iv (1 : Int32), rv b22, rv b30] [(.int (1 : Int32)), (.int (1 : Int32))] _
      refine XS.icmpNo X33.here hx rfl (hb hby at_140) rfl (teq (by decide : (1 : Int32) = (1 : Int32))).2 ?_
      show own_S p e below T33 m 143 #[iv p1, iv p2, iv p3, iv p4, iv (0 : Int32), rv b2, rv b8, iv (1 : Int32), rv b22, rv b30] [] _
      refine XS.iconst X33.here hx rfl (hb hby at_143) ?_
      show own_S p e below T33 m 144 #[iv p1, iv p2, iv p3, iv p4, iv (0 : Int32), rv b2, rv b8, iv (1 : Int32), rv b22, rv b30] [(.int (1 : Int32))] _
      refine XS.goto X33.here hx rfl (pc0 := 144) (pc' := 148) rfl (hb hby at_144) (by decide) (by decide) ?_
      show own_S p e below T33 m 148 #[iv p1, iv p2, iv p3, iv p4, iv (0 : Int32), rv b2, rv b8, iv (1 : Int32), rv b22, rv b30] [(.int (1 : Int32))] _
      refine XS.istore X33.here hx rfl (hb hby at_148) rfl (l' := #[iv p1, iv p2, iv p3, iv p4, iv (0 : Int32), rv b2, rv b8, iv (1 : Int32), rv b22, rv b30]) rfl ?_
      show own_S p e below T33 m 150 #[iv p1, iv p2, iv p3, iv p4, iv (0 : Int32), rv b2, rv b8, iv (1 : Int32), rv b22, rv b30] [] _
      refine XS.iload X33.here hx rfl (hb hby at_150) rfl ?_
      show own_S p e below T33 m 152 #[iv p1, iv p2, iv p3, iv p4, iv (0 : Int32), rv b2, rv b8, iv (1 : Int32), rv b22, rv b30] [(.int (0 : Int32))] _
      refine XS.iconst X33.here hx rfl (hb hby at_152) ?_
      show own_S p e below T33 m 153 #[iv p1, iv p2, iv p3, iv p4, iv (0 : Int32), rv b2, rv b8, iv (1 : Int32), rv b22, rv b30] [(.int (1 : Int32)), (.int (0 : Int32))] _
      refine XS.icmpYes X33.here hx rfl (pc0 := 153) (pc' := 193) rfl (hb hby at_153) rfl (tlt (by decide : (0 : Int32) < (1 : Int32))).1 (by decide) (by decide) ?_
      show own_S p e below T33 m 193 #[iv p1, iv p2, iv p3, iv p4, iv (0 : Int32), rv b2, rv b8, iv (1 : Int32), rv b22, rv b30] [] _
      refine XS.iload X33.here hx rfl (hb hby at_193) rfl ?_
      show own_S p e below T33 m 195 #[iv p1, iv p2, iv p3, iv p4, iv (0 : Int32), rv b2, rv b8, iv (1 : Int32), rv b22, rv b30] [(.int (0 : Int32))] _
      refine XS.iconst X33.here hx rfl (hb hby at_195) ?_
      show own_S p e below T33 m 196 #[iv p1, iv p2, iv p3, iv p4, iv (0 : Int32), rv b2, rv b8, iv (1 : Int32), rv b22, rv b30] [(.int (2 : Int32)), (.int (0 : Int32))] _
      refine XS.icmpNo X33.here hx rfl (hb hby at_196) rfl (flt (by decide : ¬ ((2 : Int32) < (0 : Int32)))).2.2.1 ?_
      show own_S p e below T33 m 199 #[iv p1, iv p2, iv p3, iv p4, iv (0 : Int32), rv b2, rv b8, iv (1 : Int32), rv b22, rv b30] [] _
      refine XS.aload X33.here hx rfl (hb hby at_199) rfl rfl ?_
      show own_S p e below T33 m 201 #[iv p1, iv p2, iv p3, iv p4, iv (0 : Int32), rv b2, rv b8, iv (1 : Int32), rv b22, rv b30] [(.ref b22)] _
      refine st35.trans ?_
      show own_S p e below T35 m 204 #[iv p1, iv p2, iv p3, iv p4, iv (0 : Int32), rv b2, rv b8, iv (1 : Int32), rv b22, rv b30] [(.long (own_val (nar .byte ((p2 &&& (127 : Int32)).toInt8.toInt32))))] _
      jvm_step X35.here [X35.here.top, hx, (hb hby at_204), Value.category]
      show own_S p e below T35 m 205 #[iv p1, iv p2, iv p3, iv p4, iv (0 : Int32), rv b2, rv b8, iv (1 : Int32), rv b22, rv b30] [] _
      refine XS.iload X35.here hx rfl (hb hby at_205) rfl ?_
      show own_S p e below T35 m 207 #[iv p1, iv p2, iv p3, iv p4, iv (0 : Int32), rv b2, rv b8, iv (1 : Int32), rv b22, rv b30] [(.int (1 : Int32))] _
      refine XS.ifNo X35.here hx rfl (hb hby at_207) rfl ((if0 _ _).trans (feq (by decide : ¬ ((1 : Int32) = (0 : Int32)))).1) ?_
      show own_S p e below T35 m 210 #[iv p1, iv p2, iv p3, iv p4, iv (0 : Int32), rv b2, rv b8, iv (1 : Int32), rv b22, rv b30] [] _
      refine XS.aload X35.here hx rfl (hb hby at_210) rfl rfl ?_
      show own_S p e below T35 m 212 #[iv p1, iv p2, iv p3, iv p4, iv (0 : Int32), rv b2, rv b8, iv (1 : Int32), rv b22, rv b30] [(.ref b22)] _
      refine st36.trans ?_
      show own_S p e below T36 m 215 #[iv p1, iv p2, iv p3, iv p4, iv (0 : Int32), rv b2, rv b8, iv (1 : Int32), rv b22, rv b30] [(.int (0 : Int32))] _
      refine XS.iload X36.here hx rfl (hb hby at_215) rfl ?_
      show own_S p e below T36 m 217 #[iv p1, iv p2, iv p3, iv p4, iv (0 : Int32), rv b2, rv b8, iv (1 : Int32), rv b22, rv b30] [(.int (0 : Int32)), (.int (0 : Int32))] _
      refine XS.iconst X36.here hx rfl (hb hby at_217) ?_
      show own_S p e below T36 m 218 #[iv p1, iv p2, iv p3, iv p4, iv (0 : Int32), rv b2, rv b8, iv (1 : Int32), rv b22, rv b30] [(.int (2 : Int32)), (.int (0 : Int32)), (.int (0 : Int32))] _
      refine XS.icmpYes X36.here hx rfl (pc0 := 218) (pc' := 225) rfl (hb hby at_218) rfl (feq (by decide : ¬ ((0 : Int32) = (2 : Int32)))).2 (by decide) (by decide) ?_
      show own_S p e below T36 m 225 #[iv p1, iv p2, iv p3, iv p4, iv (0 : Int32), rv b2, rv b8, iv (1 : Int32), rv b22, rv b30] [(.int (0 : Int32))] _
      refine XS.iconst X36.here hx rfl (hb hby at_225) ?_
      show own_S p e below T36 m 226 #[iv p1, iv p2, iv p3, iv p4, iv (0 : Int32), rv b2, rv b8, iv (1 : Int32), rv b22, rv b30] [(.int (0 : Int32)), (.int (0 : Int32))] _
      refine XS.icmpNo X36.here hx rfl (hb hby at_226) rfl (teq (by decide : (0 : Int32) = (0 : Int32))).2 ?_
      show own_S p e below T36 m 229 #[iv p1, iv p2, iv p3, iv p4, iv (0 : Int32), rv b2, rv b8, iv (1 : Int32), rv b22, rv b30] [] _
      refine XS.iconst X36.here hx rfl (hb hby at_229) ?_
      show own_S p e below T36 m 230 #[iv p1, iv p2, iv p3, iv p4, iv (0 : Int32), rv b2, rv b8, iv (1 : Int32), rv b22, rv b30] [(.int (1 : Int32))] _
      refine XS.goto X36.here hx rfl (pc0 := 230) (pc' := 234) rfl (hb hby at_230) (by decide) (by decide) ?_
      show own_S p e below T36 m 234 #[iv p1, iv p2, iv p3, iv p4, iv (0 : Int32), rv b2, rv b8, iv (1 : Int32), rv b22, rv b30] [(.int (1 : Int32))] _
      refine XS.istore X36.here hx rfl (hb hby at_234) rfl (l' := #[iv p1, iv p2, iv p3, iv p4, iv (0 : Int32), rv b2, rv b8, iv (1 : Int32), rv b22, rv b30]) rfl ?_
      show own_S p e below T36 m 236 #[iv p1, iv p2, iv p3, iv p4, iv (0 : Int32), rv b2, rv b8, iv (1 : Int32), rv b22, rv b30] [] _
      refine XS.iload X36.here hx rfl (hb hby at_236) rfl ?_
      exact k)
    obtain ⟨fs, hr, hrun, hended, hW, hsame⟩ := X36.leave (v := some (.int (nar .boolean (1 : Int32)))) (fun h => by rw [Bd.returns] at h; cases h)
    refine ⟨_, _, pre38 _ ?_, hrun, hended, _, _, rfl, ?_, ⟨_, rfl⟩, hW, hsame.mono (by decide) (by decide)⟩
    · show own_S p e below T36 m 238 #[iv p1, iv p2, iv p3, iv p4, iv (0 : Int32), rv b2, rv b8, iv (1 : Int32), rv b22, rv b30] [(.int (1 : Int32))] _
      exact retN X36 hx (t := .boolean) Bd.returns (by simp) (hb hby at_238) hr
    · show Q0 Z p1 p2 p3 p4 h0 n0 _ T36.heap _
      rw [e36]
      exact ⟨rfl, N36⟩
  ·  -- case
    obtain ⟨T39, h39, k39, X39, e39, E39, A39, st39⟩ := newP X0 hx hZ (hw _ (List.mem_of_getElem? (i := 0) rfl)) e0 (g := (mkF m 6 #[iv p1, iv p2, iv p3, iv p4, iv (1 : Int32), .unset, .unset, .unset, .unset, .unset] [(.int (4 : Int32))])) rfl (hb hby at_6) rfl (by decide) (cap := 4) (by decide) (by decide) (by decide) (by decide)
    obtain ⟨b39, g39⟩ : ∃ z, z = h0.size := ⟨_, rfl⟩
    rw [← g39] at A39 st39
    have g_b39 : n0 ≤ b39 := Nat.le_trans Z0 (Nat.le_of_eq g39.symm)
    have sz_b39 : h0.size ≤ b39 := Nat.le_trans ((Keep.refl h0 [])).1 (Nat.le_of_eq g39.symm)
    have V_b39 : Arv Z h39 b39 k39 .byte (4 : Int32) [(.int (0 : Int32)), (.int (0 : Int32)), (.int (0 : Int32)), (.int (0 : Int32))] (.int (0 : Int32)) := (Arv.new A39 (by decide)).pad (pad_rep [] (.int (0 : Int32)) 4)
    obtain ⟨cl40, Ar40, q40, S40, M40, H40, G40⟩ := id V_b39
    have hin40 : ¬ ((0 : Int32) < 0 ∨ cl40.slots.size ≤ ((0 : Int32)).toNatClampNeg) := inb_of S40 ⟨by decide, by decide⟩
    obtain ⟨T40, h40, X40, e40, W40, st40⟩ := stB X39 hx hZ e39 Ar40 (j := (0 : Int32)) hin40 (g := (mkF m 16 #[iv p1, iv p2, iv p3, iv p4, iv (1 : Int32), rv b39, .unset, .unset, .unset, .unset] [(.int ((1 : Int32).toInt8.toInt32)), (.int (0 : Int32)), (.ref b39)])) rfl rfl (hb hby at_16)
    have V40 : Arv Z h40 b39 k39 .byte (4 : Int32) [(.int (nar .byte ((1 : Int32).toInt8.toInt32))), (.int (0 : Int32)), (.int (0 : Int32)), (.int (0 : Int32))] (.int (0 : Int32)) := Arv.set Ar40 q40 S40 M40 H40 G40 (fits_nar_byte _) W40 0 rfl (Nat.le_of_ble_eq_true rfl)
    have N40 := Fr.snoc X40 N0 g_b39
    obtain ⟨cl41, Ar41, q41, S41, M41, H41, G41⟩ := id V40
    have hin41 : ¬ ((1 : Int32) < 0 ∨ cl41.slots.size ≤ ((1 : Int32)).toNatClampNeg) := inb_of S41 ⟨by decide, by decide⟩
    obtain ⟨T41, h41, X41, e41, W41, st41⟩ := stB X40 hx hZ e40 Ar41 (j := (1 : Int32)) hin41 (g := (mkF m 25 #[iv p1, iv p2, iv p3, iv p4, iv (1 : Int32), rv b39, .unset, .unset, .unset, .unset] [(.int ((p2 &&& (127 : Int32)).toInt8.toInt32)), (.int (1 : Int32)), (.ref b39)])) rfl rfl (hb hby at_25)
    have V41 : Arv Z h41 b39 k39 .byte (4 : Int32) [(.int (nar .byte ((1 : Int32).toInt8.toInt32))), (.int (nar .byte ((p2 &&& (127 : Int32)).toInt8.toInt32))), (.int (0 : Int32)), (.int (0 : Int32))] (.int (0 : Int32)) := Arv.set Ar41 q41 S41 M41 H41 G41 (fits_nar_byte _) W41 1 rfl (Nat.le_of_ble_eq_true rfl)
    have N41 := Fr.snoc X41 N40 g_b39
    obtain ⟨cl42, Ar42, q42, S42, M42, H42, G42⟩ := id V41
    have hin42 : ¬ ((2 : Int32) < 0 ∨ cl42.slots.size ≤ ((2 : Int32)).toNatClampNeg) := inb_of S42 ⟨by decide, by decide⟩
    obtain ⟨T42, h42, X42, e42, W42, st42⟩ := stB X41 hx hZ e41 Ar42 (j := (2 : Int32)) hin42 (g := (mkF m 34 #[iv p1, iv p2, iv p3, iv p4, iv (1 : Int32), rv b39, .unset, .unset, .unset, .unset] [(.int ((p3 &&& (127 : Int32)).toInt8.toInt32)), (.int (2 : Int32)), (.ref b39)])) rfl rfl (hb hby at_34)
    have V42 : Arv Z h42 b39 k39 .byte (4 : Int32) [(.int (nar .byte ((1 : Int32).toInt8.toInt32))), (.int (nar .byte ((p2 &&& (127 : Int32)).toInt8.toInt32))), (.int (nar .byte ((p3 &&& (127 : Int32)).toInt8.toInt32))), (.int (0 : Int32))] (.int (0 : Int32)) := Arv.set Ar42 q42 S42 M42 H42 G42 (fits_nar_byte _) W42 2 rfl (Nat.le_of_ble_eq_true rfl)
    have N42 := Fr.snoc X42 N41 g_b39
    obtain ⟨cl43, Ar43, q43, S43, M43, H43, G43⟩ := id V42
    have hin43 : ¬ ((3 : Int32) < 0 ∨ cl43.slots.size ≤ ((3 : Int32)).toNatClampNeg) := inb_of S43 ⟨by decide, by decide⟩
    obtain ⟨T43, h43, X43, e43, W43, st43⟩ := stB X42 hx hZ e42 Ar43 (j := (3 : Int32)) hin43 (g := (mkF m 43 #[iv p1, iv p2, iv p3, iv p4, iv (1 : Int32), rv b39, .unset, .unset, .unset, .unset] [(.int ((p4 &&& (127 : Int32)).toInt8.toInt32)), (.int (3 : Int32)), (.ref b39)])) rfl rfl (hb hby at_43)
    have V43 : Arv Z h43 b39 k39 .byte (4 : Int32) [(.int (nar .byte ((1 : Int32).toInt8.toInt32))), (.int (nar .byte ((p2 &&& (127 : Int32)).toInt8.toInt32))), (.int (nar .byte ((p3 &&& (127 : Int32)).toInt8.toInt32))), (.int (nar .byte ((p4 &&& (127 : Int32)).toInt8.toInt32)))] (.int (0 : Int32)) := Arv.set Ar43 q43 S43 M43 H43 G43 (fits_nar_byte _) W43 3 rfl (Nat.le_of_ble_eq_true rfl)
    have N43 := Fr.snoc X43 N42 g_b39
    have Zs44 : n0 ≤ h43.size := (Nat.le_trans (Nat.le_trans (Nat.le_trans (Nat.le_trans (Nat.le_trans Z0 E39.1) (Keep.of_wr W40).1) (Keep.of_wr W41).1) (Keep.of_wr W42).1) (Keep.of_wr W43).1)
    obtain ⟨T45, h45, X45, e45, E45, A45, D45, -, st45⟩ := newO X43 hx hZ hown (hw _ (List.mem_of_getElem? (i := 1) rfl)) (hw _ (List.mem_of_getElem? (i := 2) rfl)) (hw _ (List.mem_of_getElem? (i := 3) rfl)) e43 (g := (mkF m 44 #[iv p1, iv p2, iv p3, iv p4, iv (1 : Int32), rv b39, .unset, .unset, .unset, .unset] [])) rfl (hb hby at_44) (by decide) (by decide)
    obtain ⟨b45, g45⟩ : ∃ z, z = h43.size := ⟨_, rfl⟩
    rw [← g45] at A45 D45 st45
    have g_b45 : n0 ≤ b45 := Nat.le_trans Zs44 (Nat.le_of_eq g45.symm)
    have sz_b45 : h0.size ≤ b45 := Nat.le_trans (((((((Keep.refl h0 []).ext E39).wr W40 (Or.inr sz_b39)).wr W41 (Or.inr sz_b39)).wr W42 (Or.inr sz_b39)).wr W43 (Or.inr sz_b39))).1 (Nat.le_of_eq g45.symm)
    have ne_b39_b45 : b39 ≠ b45 := Nat.ne_of_lt (Nat.lt_of_lt_of_le V43.lt (Nat.le_of_eq g45.symm))
    have F__bytes_b45 : Fld Z h45 b45 "com/example/converge/converge/runtime/WireReader" "_bytes" "[B" .null := D45 (Or.inr (hw _ (List.mem_of_getElem? (i := 14) rfl))) (ty := (.array .byte)) (by decide)
    have F__position_b45 : Fld Z h45 b45 "com/example/converge/converge/runtime/WireReader" "_position" "I" (.int (0 : Int32)) := D45 (Or.inl (hw _ (List.mem_of_getElem? (i := 16) rfl))) (ty := .int) (by decide)
    have F__end_b45 : Fld Z h45 b45 "com/example/converge/converge/runtime/WireReader" "_end" "I" (.int (0 : Int32)) := D45 (Or.inr (hw _ (List.mem_of_getElem? (i := 18) rfl))) (ty := .int) (by decide)
    have Zs46 : n0 ≤ h45.size := (Nat.le_trans Zs44 E45.1)
    have Vn_47 := (V43.ext E45)
    obtain ⟨T48, h48, k48, X48, e48, E48, A48, st48⟩ := newP X45 hx hZ (hw _ (List.mem_of_getElem? (i := 0) rfl)) e45 (g := (mkF m 49 #[iv p1, iv p2, iv p3, iv p4, iv (1 : Int32), rv b39, .unset, .unset, .unset, .unset] [(.int (0 : Int32)), (.ref b45), (.ref b45)])) rfl (hb hby at_49) rfl (by decide) (cap := 0) (by decide) (by decide) (by decide) (by decide)
    obtain ⟨b48, g48⟩ : ∃ z, z = h45.size := ⟨_, rfl⟩
    rw [← g48] at A48 st48
    have g_b48 : n0 ≤ b48 := Nat.le_trans Zs46 (Nat.le_of_eq g48.symm)
    have sz_b48 : h0.size ≤ b48 := Nat.le_trans ((((((((Keep.refl h0 []).ext E39).wr W40 (Or.inr sz_b39)).wr W41 (Or.inr sz_b39)).wr W42 (Or.inr sz_b39)).wr W43 (Or.inr sz_b39)).ext E45)).1 (Nat.le_of_eq g48.symm)
    have ne_b39_b48 : b39 ≠ b48 := Nat.ne_of_lt (Nat.lt_of_lt_of_le Vn_47.lt (Nat.le_of_eq g48.symm))
    have ne_b45_b48 : b45 ≠ b48 := Nat.ne_of_lt (Nat.lt_of_lt_of_le F__end_b45.lt (Nat.le_of_eq g48.symm))
    have V_b48 : Arv Z h48 b48 k48 .byte (0 : Int32) [] (.int (0 : Int32)) := (Arv.new A48 (by decide)).pad (pad_rep [] (.int (0 : Int32)) 0)
    have En_49 := (A45.ext E48)
    have Fn_50 := (F__bytes_b45.ext E48)
    have Fn_51 := (F__position_b45.ext E48)
    have Fn_52 := (F__end_b45.ext E48)
    have Zs54 : n0 ≤ h48.size := (Nat.le_trans Zs46 E48.1)
    obtain ⟨_, _, ⟨T53, L53, k53, n53⟩, -, X53, ⟨Lc53, hQ53, l53, y53, z53⟩, st53⟩ := X48.specialBack hx (y := (⟨"com/example/converge/converge/runtime/WireReader", "<init>", "([B)V"⟩ : MethodName)) rfl hown (mvT hZ (hw _ (List.mem_of_getElem? (i := 4) rfl))) (mvT hZ (hw _ (List.mem_of_getElem? (i := 5) rfl))) (mvT hZ (hw _ (List.mem_of_getElem? (i := 6) rfl))) (by decide) (backOf (W := 1) (rm1 l Z a0 hw [] b45 b48 k48 (0 : Int32) [] h48 n0 Zs54 En_49 g_b45 Fn_50 Fn_51 Fn_52 V_b48) hZ (hw _ (List.mem_of_getElem? (i := 6) rfl)) (hw _ (List.mem_of_getElem? (i := 3) rfl)) (by decide) (by decide)) (g := (mkF m 51 #[iv p1, iv p2, iv p3, iv p4, iv (1 : Int32), rv b39, .unset, .unset, .unset, .unset] [(.ref b48), (.ref b45), (.ref b45)])) rfl (by rw [hml]; rfl) (Steps.refl _) (a := b45) (argsL := [(.ref b48)]) (rest := [(.ref b45)]) (lenOf pd_3 rfl) rfl (by show 2 * 0 + _ ≤ _; exact Nat.le_of_eq rfl) (hb hby at_51) (fun _ _ => ⟨rfl, e48, (by decide : 3 + 0 ≤ _), (by decide : 7 + 0 ≤ _)⟩)
    dsimp only [Pt.U, Pt.locs, Pt.cells, Pt.slots] at X53 l53 y53 z53 st53 hQ53
    subst l53 y53 z53
    obtain ⟨rfl, N53q, K53, E53c, Fb53, Fp53, Fe53⟩ := hQ53
    have N53 := Fr.app N43 N53q
    have Zs56 : n0 ≤ T53.heap.size := (Nat.le_trans Zs54 K53.1)
    obtain ⟨cq55, kq55, q55a, q55b, q55c⟩ := isOf hZ rfl E53c
    obtain ⟨_, _, ⟨T55, L55, k55, n55⟩, -, X55, ⟨Lc55, hQ55, l55, y55, z55⟩, st55⟩ := X53.virtualBack hx (y := (⟨"com/example/converge/converge/runtime/WireReader", "isAtEnd", "()Z"⟩ : MethodName)) (z := (⟨"com/example/converge/converge/runtime/WireReader", "isAtEnd", "()Z"⟩ : MethodName)) hown (mvT hZ (hw _ (List.mem_of_getElem? (i := 19) rfl))) (mvT hZ (hw _ (List.mem_of_getElem? (i := 20) rfl))) (notFace_of_selects (args := #[]) (mvT hZ (hw _ (List.mem_of_getElem? (i := 22) rfl)))) (mvT hZ (hw _ (List.mem_of_getElem? (i := 22) rfl))) (mvT hZ (hw _ (List.mem_of_getElem? (i := 21) rfl))) (by decide) (backOf (W := 0) (rm4 l Z a0 hw [] b45 (0 : Int32) (0 : Int32) T53.heap n0 Zs56 Fp53 Fe53) hZ (hw _ (List.mem_of_getElem? (i := 23) rfl)) (hw _ (List.mem_of_getElem? (i := 3) rfl)) (by decide) (by decide)) q55a q55c (g := (mkF m 58 #[iv p1, iv p2, iv p3, iv p4, iv (1 : Int32), rv b39, rv b45, .unset, .unset, .unset] [(.ref b45)])) rfl (by rw [hml]; rfl) (Steps.refl _) (argsL := []) (rest := []) (lenOf pd_4 rfl) rfl (by show 2 * 0 + _ ≤ _; exact Nat.le_of_eq rfl) (hb hby at_58) (fun _ _ => ⟨rfl, rfl, (by decide : 3 + 0 ≤ _), (by decide : 7 + 0 ≤ _)⟩)
    dsimp only [Pt.U, Pt.locs, Pt.cells, Pt.slots] at X55 l55 y55 z55 st55 hQ55
    subst l55 y55 z55
    obtain ⟨hv55, N55q, e55q⟩ := hQ55
    have N55 := Fr.app N53 N55q
    rw [show own_end (0 : Int32) (0 : Int32) = (1 : Int32) from by decide] at hv55
    subst hv55
    have e55 : T55.heap = T53.heap := e55q
    have Vn_57 := ((Vn_47.ext E48).keep K53 (ninS ne_b39_b45 nin0))
    have Vn_58 := (V_b48.keep K53 (ninS (Ne.symm ne_b45_b48) nin0))
    obtain ⟨T59, h59, X59, e59, E59, A59, D59, -, st59⟩ := newO X55 hx hZ hown (hw _ (List.mem_of_getElem? (i := 1) rfl)) (hw _ (List.mem_of_getElem? (i := 2) rfl)) (hw _ (List.mem_of_getElem? (i := 3) rfl)) e55 (g := (mkF m 63 #[iv p1, iv p2, iv p3, iv p4, iv (1 : Int32), rv b39, rv b45, iv (1 : Int32), .unset, .unset] [])) rfl (hb hby at_63) (by decide) (by decide)
    obtain ⟨b59, g59⟩ : ∃ z, z = T53.heap.size := ⟨_, rfl⟩
    rw [← g59] at A59 D59 st59
    have g_b59 : n0 ≤ b59 := Nat.le_trans Zs56 (Nat.le_of_eq g59.symm)
    have sz_b59 : h0.size ≤ b59 := Nat.le_trans ((((((((((Keep.refl h0 []).ext E39).wr W40 (Or.inr sz_b39)).wr W41 (Or.inr sz_b39)).wr W42 (Or.inr sz_b39)).wr W43 (Or.inr sz_b39)).ext E45).ext E48).trans K53 (allS (Or.inr sz_b45) all0))).1 (Nat.le_of_eq g59.symm)
    have ne_b39_b59 : b39 ≠ b59 := Nat.ne_of_lt (Nat.lt_of_lt_of_le Vn_57.lt (Nat.le_of_eq g59.symm))
    have ne_b45_b59 : b45 ≠ b59 := Nat.ne_of_lt (Nat.lt_of_lt_of_le Fe53.lt (Nat.le_of_eq g59.symm))
    have ne_b48_b59 : b48 ≠ b59 := Nat.ne_of_lt (Nat.lt_of_lt_of_le Vn_58.lt (Nat.le_of_eq g59.symm))
    have F__bytes_b59 : Fld Z h59 b59 "com/example/converge/converge/runtime/WireReader" "_bytes" "[B" .null := D59 (Or.inr (hw _ (List.mem_of_getElem? (i := 14) rfl))) (ty := (.array .byte)) (by decide)
    have F__position_b59 : Fld Z h59 b59 "com/example/converge/converge/runtime/WireReader" "_position" "I" (.int (0 : Int32)) := D59 (Or.inl (hw _ (List.mem_of_getElem? (i := 16) rfl))) (ty := .int) (by decide)
    have F__end_b59 : Fld Z h59 b59 "com/example/converge/converge/runtime/WireReader" "_end" "I" (.int (0 : Int32)) := D59 (Or.inr (hw _ (List.mem_of_getElem? (i := 18) rfl))) (ty := .int) (by decide)
    have Vn_60 := (Vn_57.ext E59)
    have Zs62 : n0 ≤ h59.size := (Nat.le_trans Zs56 E59.1)
    obtain ⟨_, _, ⟨T61, L61, k61, n61⟩, -, X61, ⟨Lc61, hQ61, l61, y61, z61⟩, st61⟩ := X59.specialBack hx (y := (⟨"com/example/converge/converge/runtime/WireReader", "<init>", "([B)V"⟩ : MethodName)) rfl hown (mvT hZ (hw _ (List.mem_of_getElem? (i := 4) rfl))) (mvT hZ (hw _ (List.mem_of_getElem? (i := 5) rfl))) (mvT hZ (hw _ (List.mem_of_getElem? (i := 6) rfl))) (by decide) (backOf (W := 1) (rm1 l Z a0 hw [] b59 b39 k39 (4 : Int32) [(.int (nar .byte ((1 : Int32).toInt8.toInt32))), (.int (nar .byte ((p2 &&& (127 : Int32)).toInt8.toInt32))), (.int (nar .byte ((p3 &&& (127 : Int32)).toInt8.toInt32))), (.int (nar .byte ((p4 &&& (127 : Int32)).toInt8.toInt32)))] h59 n0 Zs62 A59 g_b59 F__bytes_b59 F__position_b59 F__end_b59 Vn_60) hZ (hw _ (List.mem_of_getElem? (i := 6) rfl)) (hw _ (List.mem_of_getElem? (i := 3) rfl)) (by decide) (by decide)) (g := (mkF m 69 #[iv p1, iv p2, iv p3, iv p4, iv (1 : Int32), rv b39, rv b45, iv (1 : Int32), .unset, .unset] [(.ref b39), (.ref b59), (.ref b59)])) rfl (by rw [hml]; rfl) (Steps.refl _) (a := b59) (argsL := [(.ref b39)]) (rest := [(.ref b59)]) (lenOf pd_3 rfl) rfl (by show 2 * 0 + _ ≤ _; exact Nat.le_of_eq rfl) (hb hby at_69) (fun _ _ => ⟨rfl, e59, (by decide : 4 + 0 ≤ _), (by decide : 10 + 0 ≤ _)⟩)
    dsimp only [Pt.U, Pt.locs, Pt.cells, Pt.slots] at X61 l61 y61 z61 st61 hQ61
    subst l61 y61 z61
    obtain ⟨rfl, N61q, K61, E61c, Fb61, Fp61, Fe61⟩ := hQ61
    have N61 := Fr.app N55 N61q
    have Zs64 : n0 ≤ T61.heap.size := (Nat.le_trans Zs62 K61.1)
    obtain ⟨cq63, kq63, q63a, q63b, q63c⟩ := isOf hZ rfl E61c
    obtain ⟨_, _, ⟨T63, L63, k63, n63⟩, -, X63, ⟨Lc63, hQ63, l63, y63, z63⟩, st63⟩ := X61.virtualBack hx (y := (⟨"com/example/converge/converge/runtime/WireReader", "isAtEnd", "()Z"⟩ : MethodName)) (z := (⟨"com/example/converge/converge/runtime/WireReader", "isAtEnd", "()Z"⟩ : MethodName)) hown (mvT hZ (hw _ (List.mem_of_getElem? (i := 19) rfl))) (mvT hZ (hw _ (List.mem_of_getElem? (i := 20) rfl))) (notFace_of_selects (args := #[]) (mvT hZ (hw _ (List.mem_of_getElem? (i := 22) rfl)))) (mvT hZ (hw _ (List.mem_of_getElem? (i := 22) rfl))) (mvT hZ (hw _ (List.mem_of_getElem? (i := 21) rfl))) (by decide) (backOf (W := 0) (rm4 l Z a0 hw [] b59 (0 : Int32) (4 : Int32) T61.heap n0 Zs64 Fp61 Fe61) hZ (hw _ (List.mem_of_getElem? (i := 23) rfl)) (hw _ (List.mem_of_getElem? (i := 3) rfl)) (by decide) (by decide)) q63a q63c (g := (mkF m 81 #[iv p1, iv p2, iv p3, iv p4, iv (1 : Int32), rv b39, rv b45, iv (1 : Int32), rv b59, .unset] [(.ref b59)])) rfl (by rw [hml]; rfl) (Steps.refl _) (argsL := []) (rest := []) (lenOf pd_4 rfl) rfl (by show 2 * 0 + _ ≤ _; exact Nat.le_of_eq rfl) (hb hby at_81) (fun _ _ => ⟨rfl, rfl, (by decide : 4 + 0 ≤ _), (by decide : 10 + 0 ≤ _)⟩)
    dsimp only [Pt.U, Pt.locs, Pt.cells, Pt.slots] at X63 l63 y63 z63 st63 hQ63
    subst l63 y63 z63
    obtain ⟨hv63, N63q, e63q⟩ := hQ63
    have N63 := Fr.app N61 N63q
    rw [show own_end (0 : Int32) (4 : Int32) = (0 : Int32) from by decide] at hv63
    subst hv63
    have e63 : T63.heap = T61.heap := e63q
    have Vn_65 := (Vn_60.keep K61 (ninS ne_b39_b59 nin0))
    have En_66 := ((E53c.ext E59).keep K61)
    obtain ⟨cq67, kq67, q67a, q67b, q67c⟩ := isOf hZ e63 E61c
    obtain ⟨_, _, ⟨T67, L67, k67, n67⟩, -, X67, ⟨Lc67, hQ67, l67, y67, z67⟩, st67⟩ := X63.virtualBack hx (y := (⟨"com/example/converge/converge/runtime/WireReader", "readEmbedded", "()Lcom/example/converge/converge/runtime/WireReader;"⟩ : MethodName)) (z := (⟨"com/example/converge/converge/runtime/WireReader", "readEmbedded", "()Lcom/example/converge/converge/runtime/WireReader;"⟩ : MethodName)) hown (mvT hZ (hw _ (List.mem_of_getElem? (i := 24) rfl))) (mvT hZ (hw _ (List.mem_of_getElem? (i := 25) rfl))) (notFace_of_selects (args := #[]) (mvT hZ (hw _ (List.mem_of_getElem? (i := 27) rfl)))) (mvT hZ (hw _ (List.mem_of_getElem? (i := 27) rfl))) (mvT hZ (hw _ (List.mem_of_getElem? (i := 26) rfl))) (by decide) (backOf (W := 0) (rm5 l Z a0 hw [] b59 b39 (0 : Int32) (4 : Int32) k39 (4 : Int32) [(.int (nar .byte ((1 : Int32).toInt8.toInt32))), (.int (nar .byte ((p2 &&& (127 : Int32)).toInt8.toInt32))), (.int (nar .byte ((p3 &&& (127 : Int32)).toInt8.toInt32))), (.int (nar .byte ((p4 &&& (127 : Int32)).toInt8.toInt32)))] (nar .byte ((1 : Int32).toInt8.toInt32)) T61.heap n0 Zs64 E61c g_b59 Fb61 Fp61 Fe61 Vn_65 (by decide) ⟨by decide, by decide⟩ rfl (by decide +kernel) ne_b39_b59 (by decide +kernel) (by decide +kernel)) hZ (hw _ (List.mem_of_getElem? (i := 28) rfl)) (hw _ (List.mem_of_getElem? (i := 3) rfl)) (by decide) (by decide)) q67a q67c (g := (mkF m 96 #[iv p1, iv p2, iv p3, iv p4, iv (1 : Int32), rv b39, rv b45, iv (1 : Int32), rv b59, .unset] [(.ref b59)])) rfl (by rw [hml]; rfl) (Steps.refl _) (argsL := []) (rest := []) (lenOf pd_5 rfl) rfl (by show 2 * 0 + _ ≤ _; exact Nat.le_of_eq rfl) (hb hby at_96) (fun _ _ => ⟨rfl, e63, (by decide : 4 + 1 ≤ _), (by decide : 10 + 3 ≤ _)⟩)
    dsimp only [Pt.U, Pt.locs, Pt.cells, Pt.slots] at X67 l67 y67 z67 st67 hQ67
    subst l67 y67 z67
    obtain ⟨b67, rfl, N67q, K67, E67c, Fb67, Fp67, Fe67, g_b67, sz_b67, E67d, Gb67, Gp67, Ge67⟩ := hQ67
    have N67 := Fr.app N63 N67q
    rw [show (((0 : Int32) + (1 : Int32)) + (own_val (nar .byte ((1 : Int32).toInt8.toInt32))).toInt32) = (2 : Int32) from by decide +kernel] at Fp67 Ge67
    rw [show ((0 : Int32) + (1 : Int32)) = (1 : Int32) from by decide] at Gp67
    have ne_b59_b67 : b59 ≠ b67 := Nat.ne_of_lt (Nat.lt_of_lt_of_le E61c.lt sz_b67)
    have ne_b39_b67 : b39 ≠ b67 := Nat.ne_of_lt (Nat.lt_of_lt_of_le Vn_65.lt sz_b67)
    have ne_b45_b67 : b45 ≠ b67 := Nat.ne_of_lt (Nat.lt_of_lt_of_le En_66.lt sz_b67)
    have Zs69 : n0 ≤ T67.heap.size := (Nat.le_trans Zs64 K67.1)
    obtain ⟨cq68, kq68, q68a, q68b, q68c⟩ := isOf hZ rfl E67c
    obtain ⟨_, _, ⟨T68, L68, k68, n68⟩, -, X68, ⟨Lc68, hQ68, l68, y68, z68⟩, st68⟩ := X67.virtualBack hx (y := (⟨"com/example/converge/converge/runtime/WireReader", "isAtEnd", "()Z"⟩ : MethodName)) (z := (⟨"com/example/converge/converge/runtime/WireReader", "isAtEnd", "()Z"⟩ : MethodName)) hown (mvT hZ (hw _ (List.mem_of_getElem? (i := 19) rfl))) (mvT hZ (hw _ (List.mem_of_getElem? (i := 20) rfl))) (notFace_of_selects (args := #[]) (mvT hZ (hw _ (List.mem_of_getElem? (i := 22) rfl)))) (mvT hZ (hw _ (List.mem_of_getElem? (i := 22) rfl))) (mvT hZ (hw _ (List.mem_of_getElem? (i := 21) rfl))) (by decide) (backOf (W := 0) (rm4 l Z a0 hw [] b59 (2 : Int32) (4 : Int32) T67.heap n0 Zs69 Fp67 Fe67) hZ (hw _ (List.mem_of_getElem? (i := 23) rfl)) (hw _ (List.mem_of_getElem? (i := 3) rfl)) (by decide) (by decide)) q68a q68c (g := (mkF m 108 #[iv p1, iv p2, iv p3, iv p4, iv (1 : Int32), rv b39, rv b45, iv (1 : Int32), rv b59, rv b67] [(.ref b59)])) rfl (by rw [hml]; rfl) (Steps.refl _) (argsL := []) (rest := []) (lenOf pd_4 rfl) rfl (by show 2 * 0 + _ ≤ _; exact Nat.le_of_eq rfl) (hb hby at_108) (fun _ _ => ⟨rfl, rfl, (by decide : 5 + 0 ≤ _), (by decide : 13 + 0 ≤ _)⟩)
    dsimp only [Pt.U, Pt.locs, Pt.cells, Pt.slots] at X68 l68 y68 z68 st68 hQ68
    subst l68 y68 z68
    obtain ⟨hv68, N68q, e68q⟩ := hQ68
    have N68 := Fr.app N67 N68q
    rw [show own_end (2 : Int32) (4 : Int32) = (0 : Int32) from by decide] at hv68
    subst hv68
    have e68 : T68.heap = T67.heap := e68q
    obtain ⟨cq70, kq70, q70a, q70b, q70c⟩ := isOf hZ e68 E67d
    obtain ⟨_, _, ⟨T70, L70, k70, n70⟩, -, X70, ⟨Lc70, hQ70, l70, y70, z70⟩, st70⟩ := X68.virtualBack hx (y := (⟨"com/example/converge/converge/runtime/WireReader", "isAtEnd", "()Z"⟩ : MethodName)) (z := (⟨"com/example/converge/converge/runtime/WireReader", "isAtEnd", "()Z"⟩ : MethodName)) hown (mvT hZ (hw _ (List.mem_of_getElem? (i := 19) rfl))) (mvT hZ (hw _ (List.mem_of_getElem? (i := 20) rfl))) (notFace_of_selects (args := #[]) (mvT hZ (hw _ (List.mem_of_getElem? (i := 22) rfl)))) (mvT hZ (hw _ (List.mem_of_getElem? (i := 22) rfl))) (mvT hZ (hw _ (List.mem_of_getElem? (i := 21) rfl))) (by decide) (backOf (W := 0) (rm4 l Z a0 hw [] b67 (1 : Int32) (2 : Int32) T67.heap n0 Zs69 Gp67 Ge67) hZ (hw _ (List.mem_of_getElem? (i := 23) rfl)) (hw _ (List.mem_of_getElem? (i := 3) rfl)) (by decide) (by decide)) q70a q70c (g := (mkF m 127 #[iv p1, iv p2, iv p3, iv p4, iv (1 : Int32), rv b39, rv b45, iv (1 : Int32), rv b59, rv b67] [(.ref b67)])) rfl (by rw [hml]; rfl) (Steps.refl _) (argsL := []) (rest := []) (lenOf pd_4 rfl) rfl (by show 2 * 0 + _ ≤ _; exact Nat.le_of_eq rfl) (hb hby at_127) (fun _ _ => ⟨rfl, e68, (by decide : 5 + 0 ≤ _), (by decide : 13 + 0 ≤ _)⟩)
    dsimp only [Pt.U, Pt.locs, Pt.cells, Pt.slots] at X70 l70 y70 z70 st70 hQ70
    subst l70 y70 z70
    obtain ⟨hv70, N70q, e70q⟩ := hQ70
    have N70 := Fr.app N68 N70q
    rw [show own_end (1 : Int32) (2 : Int32) = (0 : Int32) from by decide] at hv70
    subst hv70
    have e70 : T70.heap = T67.heap := e70q
    have Vn_71 := (Vn_65.keep K67 (ninS ne_b39_b59 nin0))
    obtain ⟨cq72, kq72, q72a, q72b, q72c⟩ := isOf hZ e70 E67d
    obtain ⟨_, _, ⟨T72, L72, k72, n72⟩, -, X72, ⟨Lc72, hQ72, l72, y72, z72⟩, st72⟩ := X70.virtualBack hx (y := (⟨"com/example/converge/converge/runtime/WireReader", "readVarint", "()J"⟩ : MethodName)) (z := (⟨"com/example/converge/converge/runtime/WireReader", "readVarint", "()J"⟩ : MethodName)) hown (mvT hZ (hw _ (List.mem_of_getElem? (i := 39) rfl))) (mvT hZ (hw _ (List.mem_of_getElem? (i := 34) rfl))) (notFace_of_selects (args := #[]) (mvT hZ (hw _ (List.mem_of_getElem? (i := 36) rfl)))) (mvT hZ (hw _ (List.mem_of_getElem? (i := 36) rfl))) (mvT hZ (hw _ (List.mem_of_getElem? (i := 35) rfl))) (by decide) (backOf (W := 0) (rm7 l Z a0 hw [] b67 b39 (1 : Int32) (2 : Int32) k39 (4 : Int32) [(.int (nar .byte ((1 : Int32).toInt8.toInt32))), (.int (nar .byte ((p2 &&& (127 : Int32)).toInt8.toInt32))), (.int (nar .byte ((p3 &&& (127 : Int32)).toInt8.toInt32))), (.int (nar .byte ((p4 &&& (127 : Int32)).toInt8.toInt32)))] (nar .byte ((p2 &&& (127 : Int32)).toInt8.toInt32)) T67.heap n0 Zs69 E67d g_b67 Gb67 Gp67 Ge67 Vn_71 (by decide) ⟨by decide, by decide⟩ rfl (own_nb _)) hZ (hw _ (List.mem_of_getElem? (i := 37) rfl)) (hw _ (List.mem_of_getElem? (i := 3) rfl)) (by decide) (by decide)) q72a q72c (g := (mkF m 158 #[iv p1, iv p2, iv p3, iv p4, iv (1 : Int32), rv b39, rv b45, iv (1 : Int32), rv b59, rv b67] [(.ref b67)])) rfl (by rw [hml]; rfl) (Steps.refl _) (argsL := []) (rest := []) (lenOf pd_1 rfl) rfl (by show 2 * 0 + _ ≤ _; exact Nat.le_of_eq rfl) (hb hby at_158) (fun _ _ => ⟨rfl, e70, (by decide : 5 + 0 ≤ _), (by decide : 13 + 0 ≤ _)⟩)
    dsimp only [Pt.U, Pt.locs, Pt.cells, Pt.slots] at X72 l72 y72 z72 st72 hQ72
    subst l72 y72 z72
    obtain ⟨rfl, N72q, K72, E72c, Fb72, Fp72, Fe72⟩ := hQ72
    have N72 := Fr.app N70 N72q
    rw [show ((1 : Int32) + (1 : Int32)) = (2 : Int32) from by decide] at Fp72
    have Zs74 : n0 ≤ T72.heap.size := (Nat.le_trans Zs69 K72.1)
    obtain ⟨cq73, kq73, q73a, q73b, q73c⟩ := isOf hZ rfl E72c
    obtain ⟨_, _, ⟨T73, L73, k73, n73⟩, -, X73, ⟨Lc73, hQ73, l73, y73, z73⟩, st73⟩ := X72.virtualBack hx (y := (⟨"com/example/converge/converge/runtime/WireReader", "isAtEnd", "()Z"⟩ : MethodName)) (z := (⟨"com/example/converge/converge/runtime/WireReader", "isAtEnd", "()Z"⟩ : MethodName)) hown (mvT hZ (hw _ (List.mem_of_getElem? (i := 19) rfl))) (mvT hZ (hw _ (List.mem_of_getElem? (i := 20) rfl))) (notFace_of_selects (args := #[]) (mvT hZ (hw _ (List.mem_of_getElem? (i := 22) rfl)))) (mvT hZ (hw _ (List.mem_of_getElem? (i := 22) rfl))) (mvT hZ (hw _ (List.mem_of_getElem? (i := 21) rfl))) (by decide) (backOf (W := 0) (rm4 l Z a0 hw [] b67 (2 : Int32) (2 : Int32) T72.heap n0 Zs74 Fp72 Fe72) hZ (hw _ (List.mem_of_getElem? (i := 23) rfl)) (hw _ (List.mem_of_getElem? (i := 3) rfl)) (by decide) (by decide)) q73a q73c (g := (mkF m 169 #[iv p1, iv p2, iv p3, iv p4, iv (1 : Int32), rv b39, rv b45, iv (1 : Int32), rv b59, rv b67] [(.ref b67)])) rfl (by rw [hml]; rfl) (Steps.refl _) (argsL := []) (rest := []) (lenOf pd_4 rfl) rfl (by show 2 * 0 + _ ≤ _; exact Nat.le_of_eq rfl) (hb hby at_169) (fun _ _ => ⟨rfl, rfl, (by decide : 5 + 0 ≤ _), (by decide : 13 + 0 ≤ _)⟩)
    dsimp only [Pt.U, Pt.locs, Pt.cells, Pt.slots] at X73 l73 y73 z73 st73 hQ73
    subst l73 y73 z73
    obtain ⟨hv73, N73q, e73q⟩ := hQ73
    have N73 := Fr.app N72 N73q
    rw [show own_end (2 : Int32) (2 : Int32) = (1 : Int32) from by decide] at hv73
    subst hv73
    have e73 : T73.heap = T72.heap := e73q
    have Vn_75 := (Vn_71.keep K72 (ninS ne_b39_b67 nin0))
    have En_76 := (E67c.keep K72)
    have Fn_77 := (Fb67.keep K72 (ninS ne_b59_b67 nin0))
    have Fn_78 := (Fp67.keep K72 (ninS ne_b59_b67 nin0))
    have Fn_79 := (Fe67.keep K72 (ninS ne_b59_b67 nin0))
    obtain ⟨cq80, kq80, q80a, q80b, q80c⟩ := isOf hZ e73 En_76
    obtain ⟨_, _, ⟨T80, L80, k80, n80⟩, -, X80, ⟨Lc80, hQ80, l80, y80, z80⟩, st80⟩ := X73.virtualBack hx (y := (⟨"com/example/converge/converge/runtime/WireReader", "readVarint", "()J"⟩ : MethodName)) (z := (⟨"com/example/converge/converge/runtime/WireReader", "readVarint", "()J"⟩ : MethodName)) hown (mvT hZ (hw _ (List.mem_of_getElem? (i := 39) rfl))) (mvT hZ (hw _ (List.mem_of_getElem? (i := 34) rfl))) (notFace_of_selects (args := #[]) (mvT hZ (hw _ (List.mem_of_getElem? (i := 36) rfl)))) (mvT hZ (hw _ (List.mem_of_getElem? (i := 36) rfl))) (mvT hZ (hw _ (List.mem_of_getElem? (i := 35) rfl))) (by decide) (backOf (W := 0) (rm7 l Z a0 hw [] b59 b39 (2 : Int32) (4 : Int32) k39 (4 : Int32) [(.int (nar .byte ((1 : Int32).toInt8.toInt32))), (.int (nar .byte ((p2 &&& (127 : Int32)).toInt8.toInt32))), (.int (nar .byte ((p3 &&& (127 : Int32)).toInt8.toInt32))), (.int (nar .byte ((p4 &&& (127 : Int32)).toInt8.toInt32)))] (nar .byte ((p3 &&& (127 : Int32)).toInt8.toInt32)) T72.heap n0 Zs74 En_76 g_b59 Fn_77 Fn_78 Fn_79 Vn_75 (by decide) ⟨by decide, by decide⟩ rfl (own_nb _)) hZ (hw _ (List.mem_of_getElem? (i := 37) rfl)) (hw _ (List.mem_of_getElem? (i := 3) rfl)) (by decide) (by decide)) q80a q80c (g := (mkF m 201 #[iv p1, iv p2, iv p3, iv p4, iv (1 : Int32), rv b39, rv b45, iv (1 : Int32), rv b59, rv b67] [(.ref b59)])) rfl (by rw [hml]; rfl) (Steps.refl _) (argsL := []) (rest := []) (lenOf pd_1 rfl) rfl (by show 2 * 0 + _ ≤ _; exact Nat.le_of_eq rfl) (hb hby at_201) (fun _ _ => ⟨rfl, e73, (by decide : 5 + 0 ≤ _), (by decide : 13 + 0 ≤ _)⟩)
    dsimp only [Pt.U, Pt.locs, Pt.cells, Pt.slots] at X80 l80 y80 z80 st80 hQ80
    subst l80 y80 z80
    obtain ⟨rfl, N80q, K80, E80c, Fb80, Fp80, Fe80⟩ := hQ80
    have N80 := Fr.app N73 N80q
    rw [show ((2 : Int32) + (1 : Int32)) = (3 : Int32) from by decide] at Fp80
    have Zs82 : n0 ≤ T80.heap.size := (Nat.le_trans Zs74 K80.1)
    obtain ⟨cq81, kq81, q81a, q81b, q81c⟩ := isOf hZ rfl E80c
    obtain ⟨_, _, ⟨T81, L81, k81, n81⟩, -, X81, ⟨Lc81, hQ81, l81, y81, z81⟩, st81⟩ := X80.virtualBack hx (y := (⟨"com/example/converge/converge/runtime/WireReader", "isAtEnd", "()Z"⟩ : MethodName)) (z := (⟨"com/example/converge/converge/runtime/WireReader", "isAtEnd", "()Z"⟩ : MethodName)) hown (mvT hZ (hw _ (List.mem_of_getElem? (i := 19) rfl))) (mvT hZ (hw _ (List.mem_of_getElem? (i := 20) rfl))) (notFace_of_selects (args := #[]) (mvT hZ (hw _ (List.mem_of_getElem? (i := 22) rfl)))) (mvT hZ (hw _ (List.mem_of_getElem? (i := 22) rfl))) (mvT hZ (hw _ (List.mem_of_getElem? (i := 21) rfl))) (by decide) (backOf (W := 0) (rm4 l Z a0 hw [] b59 (3 : Int32) (4 : Int32) T80.heap n0 Zs82 Fp80 Fe80) hZ (hw _ (List.mem_of_getElem? (i := 23) rfl)) (hw _ (List.mem_of_getElem? (i := 3) rfl)) (by decide) (by decide)) q81a q81c (g := (mkF m 212 #[iv p1, iv p2, iv p3, iv p4, iv (1 : Int32), rv b39, rv b45, iv (1 : Int32), rv b59, rv b67] [(.ref b59)])) rfl (by rw [hml]; rfl) (Steps.refl _) (argsL := []) (rest := []) (lenOf pd_4 rfl) rfl (by show 2 * 0 + _ ≤ _; exact Nat.le_of_eq rfl) (hb hby at_212) (fun _ _ => ⟨rfl, rfl, (by decide : 5 + 0 ≤ _), (by decide : 13 + 0 ≤ _)⟩)
    dsimp only [Pt.U, Pt.locs, Pt.cells, Pt.slots] at X81 l81 y81 z81 st81 hQ81
    subst l81 y81 z81
    obtain ⟨hv81, N81q, e81q⟩ := hQ81
    have N81 := Fr.app N80 N81q
    rw [show own_end (3 : Int32) (4 : Int32) = (0 : Int32) from by decide] at hv81
    subst hv81
    have e81 : T81.heap = T80.heap := e81q
    have pre83 : ∀ t, own_S p e below T81 m 238 #[iv p1, iv p2, iv p3, iv p4, iv (1 : Int32), rv b39, rv b45, iv (1 : Int32), rv b59, rv b67] [(.int (1 : Int32))] t → Steps p.tables e below (s₁.setTop (entryFrame m #[(.int p1), (.int p2), (.int p3), (.int p4)] maxLocals)) t := fun t k => pre1 t (by
      show own_S p e below s₁ m 5 #[iv p1, iv p2, iv p3, iv p4, iv (1 : Int32), .unset, .unset, .unset, .unset, .unset] [] _
      refine XS.iconst X0.here hx rfl (hb hby at_5) ?_
      show own_S p e below s₁ m 6 #[iv p1, iv p2, iv p3, iv p4, iv (1 : Int32), .unset, .unset, .unset, .unset, .unset] [(.int (4 : Int32))] _
      refine st39 _ ?_
      show own_S p e below T39 m 8 #[iv p1, iv p2, iv p3, iv p4, iv (1 : Int32), .unset, .unset, .unset, .unset, .unset] [(.ref b39)] _
      refine XS.astore X39.here hx rfl (hb hby at_8) rfl rfl (l' := #[iv p1, iv p2, iv p3, iv p4, iv (1 : Int32), rv b39, .unset, .unset, .unset, .unset]) rfl ?_
      show own_S p e below T39 m 10 #[iv p1, iv p2, iv p3, iv p4, iv (1 : Int32), rv b39, .unset, .unset, .unset, .unset] [] _
      refine XS.aload X39.here hx rfl (hb hby at_10) rfl rfl ?_
      show own_S p e below T39 m 12 #[iv p1, iv p2, iv p3, iv p4, iv (1 : Int32), rv b39, .unset, .unset, .unset, .unset] [(.ref b39)] _
      refine XS.iconst X39.here hx rfl (hb hby at_12) ?_
      show own_S p e below T39 m 13 #[iv p1, iv p2, iv p3, iv p4, iv (1 : Int32), rv b39, .unset, .unset, .unset, .unset] [(.int (0 : Int32)), (.ref b39)] _
      refine XS.iload X39.here hx rfl (hb hby at_13) rfl ?_
      show own_S p e below T39 m 15 #[iv p1, iv p2, iv p3, iv p4, iv (1 : Int32), rv b39, .unset, .unset, .unset, .unset] [(.int (1 : Int32)), (.int (0 : Int32)), (.ref b39)] _
      refine XS.i2b X39.here hx rfl (hb hby at_15) rfl ?_
      show own_S p e below T39 m 16 #[iv p1, iv p2, iv p3, iv p4, iv (1 : Int32), rv b39, .unset, .unset, .unset, .unset] [(.int ((1 : Int32).toInt8.toInt32)), (.int (0 : Int32)), (.ref b39)] _
      refine st40 _ ?_
      show own_S p e below T40 m 17 #[iv p1, iv p2, iv p3, iv p4, iv (1 : Int32), rv b39, .unset, .unset, .unset, .unset] [] _
      refine XS.aload X40.here hx rfl (hb hby at_17) rfl rfl ?_
      show own_S p e below T40 m 19 #[iv p1, iv p2, iv p3, iv p4, iv (1 : Int32), rv b39, .unset, .unset, .unset, .unset] [(.ref b39)] _
      refine XS.iconst X40.here hx rfl (hb hby at_19) ?_
      show own_S p e below T40 m 20 #[iv p1, iv p2, iv p3, iv p4, iv (1 : Int32), rv b39, .unset, .unset, .unset, .unset] [(.int (1 : Int32)), (.ref b39)] _
      refine XS.iloadN X40.here hx rfl (hb hby at_20) rfl ?_
      show own_S p e below T40 m 21 #[iv p1, iv p2, iv p3, iv p4, iv (1 : Int32), rv b39, .unset, .unset, .unset, .unset] [(.int p2), (.int (1 : Int32)), (.ref b39)] _
      refine XS.bipush X40.here hx rfl (hb hby at_21) ?_
      show own_S p e below T40 m 23 #[iv p1, iv p2, iv p3, iv p4, iv (1 : Int32), rv b39, .unset, .unset, .unset, .unset] [(.int (127 : Int32)), (.int p2), (.int (1 : Int32)), (.ref b39)] _
      refine XS.iand X40.here hx rfl (hb hby at_23) rfl ?_
      show own_S p e below T40 m 24 #[iv p1, iv p2, iv p3, iv p4, iv (1 : Int32), rv b39, .unset, .unset, .unset, .unset] [(.int (p2 &&& (127 : Int32))), (.int (1 : Int32)), (.ref b39)] _
      refine XS.i2b X40.here hx rfl (hb hby at_24) rfl ?_
      show own_S p e below T40 m 25 #[iv p1, iv p2, iv p3, iv p4, iv (1 : Int32), rv b39, .unset, .unset, .unset, .unset] [(.int ((p2 &&& (127 : Int32)).toInt8.toInt32)), (.int (1 : Int32)), (.ref b39)] _
      refine st41 _ ?_
      show own_S p e below T41 m 26 #[iv p1, iv p2, iv p3, iv p4, iv (1 : Int32), rv b39, .unset, .unset, .unset, .unset] [] _
      refine XS.aload X41.here hx rfl (hb hby at_26) rfl rfl ?_
      show own_S p e below T41 m 28 #[iv p1, iv p2, iv p3, iv p4, iv (1 : Int32), rv b39, .unset, .unset, .unset, .unset] [(.ref b39)] _
      refine XS.iconst X41.here hx rfl (hb hby at_28) ?_
      show own_S p e below T41 m 29 #[iv p1, iv p2, iv p3, iv p4, iv (1 : Int32), rv b39, .unset, .unset, .unset, .unset] [(.int (2 : Int32)), (.ref b39)] _
      refine XS.iloadN X41.here hx rfl (hb hby at_29) rfl ?_
      show own_S p e below T41 m 30 #[iv p1, iv p2, iv p3, iv p4, iv (1 : Int32), rv b39, .unset, .unset, .unset, .unset] [(.int p3), (.int (2 : Int32)), (.ref b39)] _
      refine XS.bipush X41.here hx rfl (hb hby at_30) ?_
      show own_S p e below T41 m 32 #[iv p1, iv p2, iv p3, iv p4, iv (1 : Int32), rv b39, .unset, .unset, .unset, .unset] [(.int (127 : Int32)), (.int p3), (.int (2 : Int32)), (.ref b39)] _
      refine XS.iand X41.here hx rfl (hb hby at_32) rfl ?_
      show own_S p e below T41 m 33 #[iv p1, iv p2, iv p3, iv p4, iv (1 : Int32), rv b39, .unset, .unset, .unset, .unset] [(.int (p3 &&& (127 : Int32))), (.int (2 : Int32)), (.ref b39)] _
      refine XS.i2b X41.here hx rfl (hb hby at_33) rfl ?_
      show own_S p e below T41 m 34 #[iv p1, iv p2, iv p3, iv p4, iv (1 : Int32), rv b39, .unset, .unset, .unset, .unset] [(.int ((p3 &&& (127 : Int32)).toInt8.toInt32)), (.int (2 : Int32)), (.ref b39)] _
      refine st42 _ ?_
      show own_S p e below T42 m 35 #[iv p1, iv p2, iv p3, iv p4, iv (1 : Int32), rv b39, .unset, .unset, .unset, .unset] [] _
      refine XS.aload X42.here hx rfl (hb hby at_35) rfl rfl ?_
      show own_S p e below T42 m 37 #[iv p1, iv p2, iv p3, iv p4, iv (1 : Int32), rv b39, .unset, .unset, .unset, .unset] [(.ref b39)] _
      refine XS.iconst X42.here hx rfl (hb hby at_37) ?_
      show own_S p e below T42 m 38 #[iv p1, iv p2, iv p3, iv p4, iv (1 : Int32), rv b39, .unset, .unset, .unset, .unset] [(.int (3 : Int32)), (.ref b39)] _
      refine XS.iloadN X42.here hx rfl (hb hby at_38) rfl ?_
      show own_S p e below T42 m 39 #[iv p1, iv p2, iv p3, iv p4, iv (1 : Int32), rv b39, .unset, .unset, .unset, .unset] [(.int p4), (.int (3 : Int32)), (.ref b39)] _
      refine XS.bipush X42.here hx rfl (hb hby at_39) ?_
      show own_S p e below T42 m 41 #[iv p1, iv p2, iv p3, iv p4, iv (1 : Int32), rv b39, .unset, .unset, .unset, .unset] [(.int (127 : Int32)), (.int p4), (.int (3 : Int32)), (.ref b39)] _
      refine XS.iand X42.here hx rfl (hb hby at_41) rfl ?_
      show own_S p e below T42 m 42 #[iv p1, iv p2, iv p3, iv p4, iv (1 : Int32), rv b39, .unset, .unset, .unset, .unset] [(.int (p4 &&& (127 : Int32))), (.int (3 : Int32)), (.ref b39)] _
      refine XS.i2b X42.here hx rfl (hb hby at_42) rfl ?_
      show own_S p e below T42 m 43 #[iv p1, iv p2, iv p3, iv p4, iv (1 : Int32), rv b39, .unset, .unset, .unset, .unset] [(.int ((p4 &&& (127 : Int32)).toInt8.toInt32)), (.int (3 : Int32)), (.ref b39)] _
      refine st43 _ ?_
      show own_S p e below T43 m 44 #[iv p1, iv p2, iv p3, iv p4, iv (1 : Int32), rv b39, .unset, .unset, .unset, .unset] [] _
      refine st45 _ ?_
      show own_S p e below T45 m 47 #[iv p1, iv p2, iv p3, iv p4, iv (1 : Int32), rv b39, .unset, .unset, .unset, .unset] [(.ref b45)] _
      refine XS.dup X45.here hx rfl (hb hby at_47) rfl rfl ?_
      show own_S p e below T45 m 48 #[iv p1, iv p2, iv p3, iv p4, iv (1 : Int32), rv b39, .unset, .unset, .unset, .unset] [(.ref b45), (.ref b45)] _
      refine XS.iconst X45.here hx rfl (hb hby at_48) ?_
      show own_S p e below T45 m 49 #[iv p1, iv p2, iv p3, iv p4, iv (1 : Int32), rv b39, .unset, .unset, .unset, .unset] [(.int (0 : Int32)), (.ref b45), (.ref b45)] _
      refine st48 _ ?_
      show own_S p e below T48 m 51 #[iv p1, iv p2, iv p3, iv p4, iv (1 : Int32), rv b39, .unset, .unset, .unset, .unset] [(.ref b48), (.ref b45), (.ref b45)] _
      refine st53.trans ?_
      show own_S p e below T53 m 54 #[iv p1, iv p2, iv p3, iv p4, iv (1 : Int32), rv b39, .unset, .unset, .unset, .unset] [(.ref b45)] _
      refine XS.astore X53.here hx rfl (hb hby at_54) rfl rfl (l' := #[iv p1, iv p2, iv p3, iv p4, iv (1 : Int32), rv b39, rv b45, .unset, .unset, .unset]) rfl ?_
      show own_S p e below T53 m 56 #[iv p1, iv p2, iv p3, iv p4, iv (1 : Int32), rv b39, rv b45, .unset, .unset, .unset] [] _
      refine XS.aload X53.here hx rfl (hb hby at_56) rfl rfl ?_
      show own_S p e below T53 m 58 #[iv p1, iv p2, iv p3, iv p4, iv (1 : Int32), rv b39, rv b45, .unset, .unset, .unset] [(.ref b45)] _
      refine st55.trans ?_
      show own_S p e below T55 m 61 #[iv p1, iv p2, iv p3, iv p4, iv (1 : Int32), rv b39, rv b45, .unset, .unset, .unset] [(.int (1 : Int32))] _
      refine XS.istore X55.here hx rfl (hb hby at_61) rfl (l' := #[iv p1, iv p2, iv p3, iv p4, iv (1 : Int32), rv b39, rv b45, iv (1 : Int32), .unset, .unset]) rfl ?_
      show own_S p e below T55 m 63 #[iv p1, iv p2, iv p3, iv p4, iv (1 : Int32), rv b39, rv b45, iv (1 : Int32), .unset, .unset] [] _
      refine st59 _ ?_
      show own_S p e below T59 m 66 #[iv p1, iv p2, iv p3, iv p4, iv (1 : Int32), rv b39, rv b45, iv (1 : Int32), .unset, .unset] [(.ref b59)] _
      refine XS.dup X59.here hx rfl (hb hby at_66) rfl rfl ?_
      show own_S p e below T59 m 67 #[iv p1, iv p2, iv p3, iv p4, iv (1 : Int32), rv b39, rv b45, iv (1 : Int32), .unset, .unset] [(.ref b59), (.ref b59)] _
      refine XS.aload X59.here hx rfl (hb hby at_67) rfl rfl ?_
      show own_S p e below T59 m 69 #[iv p1, iv p2, iv p3, iv p4, iv (1 : Int32), rv b39, rv b45, iv (1 : Int32), .unset, .unset] [(.ref b39), (.ref b59), (.ref b59)] _
      refine st61.trans ?_
      show own_S p e below T61 m 72 #[iv p1, iv p2, iv p3, iv p4, iv (1 : Int32), rv b39, rv b45, iv (1 : Int32), .unset, .unset] [(.ref b59)] _
      refine XS.astore X61.here hx rfl (hb hby at_72) rfl rfl (l' := #[iv p1, iv p2, iv p3, iv p4, iv (1 : Int32), rv b39, rv b45, iv (1 : Int32), rv b59, .unset]) rfl ?_
      show own_S p e below T61 m 74 #[iv p1, iv p2, iv p3, iv p4, iv (1 : Int32), rv b39, rv b45, iv (1 : Int32), rv b59, .unset] [] _
      refine XS.iload X61.here hx rfl (hb hby at_74) rfl ?_
      show own_S p e below T61 m 76 #[iv p1, iv p2, iv p3, iv p4, iv (1 : Int32), rv b39, rv b45, iv (1 : Int32), rv b59, .unset] [(.int (1 : Int32))] _
      refine XS.ifNo X61.here hx rfl (hb hby at_76) rfl ((if0 _ _).trans (feq (by decide : ¬ ((1 : Int32) = (0 : Int32)))).1) ?_
      show own_S p e below T61 m 79 #[iv p1, iv p2, iv p3, iv p4, iv (1 : Int32), rv b39, rv b45, iv (1 : Int32), rv b59, .unset] [] _
      refine XS.aload X61.here hx rfl (hb hby at_79) rfl rfl ?_
      show own_S p e below T61 m 81 #[iv p1, iv p2, iv p3, iv p4, iv (1 : Int32), rv b39, rv b45, iv (1 : Int32), rv b59, .unset] [(.ref b59)] _
      refine st63.trans ?_
      show own_S p e below T63 m 84 #[iv p1, iv p2, iv p3, iv p4, iv (1 : Int32), rv b39, rv b45, iv (1 : Int32), rv b59, .unset] [(.int (0 : Int32))] _
      refine XS.ifNo X63.here hx rfl (hb hby at_84) rfl ((if0 _ _).trans (teq (by decide : (0 : Int32) = (0 : Int32))).2) ?_
      show own_S p e below T63 m 87 #[iv p1, iv p2, iv p3, iv p4, iv (1 : Int32), rv b39, rv b45, iv (1 : Int32), rv b59, .unset] [] _
      refine XS.iconst X63.here hx rfl (hb hby at_87) ?_
      show own_S p e below T63 m 88 #[iv p1, iv p2, iv p3, iv p4, iv (1 : Int32), rv b39, rv b45, iv (1 : Int32), rv b59, .unset] [(.int (1 : Int32))] _
      refine XS.goto X63.here hx rfl (pc0 := 88) (pc' := 92) rfl (hb hby at_88) (by decide) (by decide) ?_
      show own_S p e below T63 m 92 #[iv p1, iv p2, iv p3, iv p4, iv (1 : Int32), rv b39, rv b45, iv (1 : Int32), rv b59, .unset] [(.int (1 : Int32))] _
      refine XS.istore X63.here hx rfl (hb hby at_92) rfl (l' := #[iv p1, iv p2, iv p3, iv p4, iv (1 : Int32), rv b39, rv b45, iv (1 : Int32), rv b59, .unset]) rfl ?_
      show own_S p e below T63 m 94 #[iv p1, iv p2, iv p3, iv p4, iv (1 : Int32), rv b39, rv b45, iv (1 : Int32), rv b59, .unset] [] _
      refine XS.aload X63.here hx rfl (hb hby at_94) rfl rfl ?_
      show own_S p e below T63 m 96 #[iv p1, iv p2, iv p3, iv p4, iv (1 : Int32), rv b39, rv b45, iv (1 : Int32), rv b59, .unset] [(.ref b59)] _
      refine st67.trans ?_
      show own_S p e below T67 m 99 #[iv p1, iv p2, iv p3, iv p4, iv (1 : Int32), rv b39, rv b45, iv (1 : Int32), rv b59, .unset] [(.ref b67)] _
      refine XS.astore X67.here hx rfl (hb hby at_99) rfl rfl (l' := #[iv p1, iv p2, iv p3, iv p4, iv (1 : Int32), rv b39, rv b45, iv (1 : Int32), rv b59, rv b67]) rfl ?_
      show own_S p e below T67 m 101 #[iv p1, iv p2, iv p3, iv p4, iv (1 : Int32), rv b39, rv b45, iv (1 : Int32), rv b59, rv b67] [] _
      refine XS.iload X67.here hx rfl (hb hby at_101) rfl ?_
      show own_S p e below T67 m 103 #[iv p1, iv p2, iv p3, iv p4, iv (1 : Int32), rv b39, rv b45, iv (1 : Int32), rv b59, rv b67] [(.int (1 : Int32))] _
      refine XS.ifNo X67.here hx rfl (hb hby at_103) rfl ((if0 _ _).trans (feq (by decide : ¬ ((1 : Int32) = (0 : Int32)))).1) ?_
      show own_S p e below T67 m 106 #[iv p1, iv p2, iv p3, iv p4, iv (1 : Int32), rv b39, rv b45, iv (1 : Int32), rv b59, rv b67] [] _
      refine XS.aload X67.here hx rfl (hb hby at_106) rfl rfl ?_
      show own_S p e below T67 m 108 #[iv p1, iv p2, iv p3, iv p4, iv (1 : Int32), rv b39, rv b45, iv (1 : Int32), rv b59, rv b67] [(.ref b59)] _
      refine st68.trans ?_
      show own_S p e below T68 m 111 #[iv p1, iv p2, iv p3, iv p4, iv (1 : Int32), rv b39, rv b45, iv (1 : Int32), rv b59, rv b67] [(.int (0 : Int32))] _
      refine XS.iload X68.here hx rfl (hb hby at_111) rfl ?_
      show own_S p e below T68 m 113 #[iv p1, iv p2, iv p3, iv p4, iv (1 : Int32), rv b39, rv b45, iv (1 : Int32), rv b59, rv b67] [(.int (1 : Int32)), (.int (0 : Int32))] _
      refine XS.iconst X68.here hx rfl (hb hby at_113) ?_
      show own_S p e below T68 m 114 #[iv p1, iv p2, iv p3, iv p4, iv (1 : Int32), rv b39, rv b45, iv (1 : Int32), rv b59, rv b67] [(.int (3 : Int32)), (.int (1 : Int32)), (.int (0 : Int32))] _
      refine XS.icmpYes X68.here hx rfl (pc0 := 114) (pc' := 121) rfl (hb hby at_114) rfl (feq (by decide : ¬ ((1 : Int32) = (3 : Int32)))).2 (by decide) (by decide) ?_
      show own_S p e below T68 m 121 #[iv p1, iv p2, iv p3, iv p4, iv (1 : Int32), rv b39, rv b45, iv (1 : Int32), rv b59, rv b67] [(.int (0 : Int32))] _
      refine XS.iconst X68.here hx rfl (hb hby at_121) ?_
      show own_S p e below T68 m 122 #[iv p1, iv p2, iv p3, iv p4, iv (1 : Int32), rv b39, rv b45, iv (1 : Int32), rv b59, rv b67] [(.int (0 : Int32)), (.int (0 : Int32))] _
      refine XS.icmpNo X68.here hx rfl (hb hby at_122) rfl (teq (by decide : (0 : Int32) = (0 : Int32))).2 ?_
      show own_S p e below T68 m 125 #[iv p1, iv p2, iv p3, iv p4, iv (1 : Int32), rv b39, rv b45, iv (1 : Int32), rv b59, rv b67] [] _
      refine XS.aload X68.here hx rfl (hb hby at_125) rfl rfl ?_
      show own_S p e below T68 m 127 #[iv p1, iv p2, iv p3, iv p4, iv (1 : Int32), rv b39, rv b45, iv (1 : Int32), rv b59, rv b67] [(.ref b67)] _
      refine st70.trans ?_
      show own_S p e below T70 m 130 #[iv p1, iv p2, iv p3, iv p4, iv (1 : Int32), rv b39, rv b45, iv (1 : Int32), rv b59, rv b67] [(.int (0 : Int32))] _
      refine XS.iload X70.here hx rfl (hb hby at_130) rfl ?_
      show own_S p e below T70 m 132 #[iv p1, iv p2, iv p3, iv p4, iv (1 : Int32), rv b39, rv b45, iv (1 : Int32), rv b59, rv b67] [(.int (1 : Int32)), (.int (0 : Int32))] _
      refine XS.ifYes X70.here hx rfl (pc0 := 132) (pc' := 139) rfl (hb hby at_132) rfl ((if0 _ _).trans (feq (by decide : ¬ ((1 : Int32) = (0 : Int32)))).2) (by decide) (by decide) ?_
      show own_S p e below T70 m 139 #[iv p1, iv p2, iv p3, iv p4, iv (1 : Int32), rv b39, rv b45, iv (1 : Int32), rv b59, rv b67] [(.int (0 : Int32))] _
      refine XS.iconst X70.here hx rfl (hb hby at_139) ?_
      show own_S p e below T70 m 140 #[iv p1, iv p2, iv p3, iv p4, iv (1 : Int32), rv b39, rv b45, iv (1 : Int32), rv b59, rv b67] [(.int (0 : Int32)), (.int (0 : Int32))] _
      refine XS.icmpNo X70.here hx rfl (hb hby at_140) rfl (teq (by decide : (0 : Int32) = (0 : Int32))).2 ?_
      show own_S p e below T70 m 143 #[iv p1, iv p2, iv p3, iv p4, iv (1 : Int32), rv b39, rv b45, iv (1 : Int32), rv b59, rv b67] [] _
      refine XS.iconst X70.here hx rfl (hb hby at_143) ?_
      show own_S p e below T70 m 144 #[iv p1, iv p2, iv p3, iv p4, iv (1 : Int32), rv b39, rv b45, iv (1 : Int32), rv b59, rv b67] [(.int (1 : Int32))] _
      refine XS.goto X70.here hx rfl (pc0 := 144) (pc' := 148) rfl (hb hby at_144) (by decide) (by decide) ?_
      show own_S p e below T70 m 148 #[iv p1, iv p2, iv p3, iv p4, iv (1 : Int32), rv b39, rv b45, iv (1 : Int32), rv b59, rv b67] [(.int (1 : Int32))] _
      refine XS.istore X70.here hx rfl (hb hby at_148) rfl (l' := #[iv p1, iv p2, iv p3, iv p4, iv (1 : Int32), rv b39, rv b45, iv (1 : Int32), rv b59, rv b67]) rfl ?_
      show own_S p e below T70 m 150 #[iv p1, iv p2, iv p3, iv p4, iv (1 : Int32), rv b39, rv b45, iv (1 : Int32), rv b59, rv b67] [] _
      refine XS.iload X70.here hx rfl (hb hby at_150) rfl ?_
      show own_S p e below T70 m 152 #[iv p1, iv p2, iv p3, iv p4, iv (1 : Int32), rv b39, rv b45, iv (1 : Int32), rv b59, rv b67] [(.int (1 : Int32))] _
      refine XS.iconst X70.here hx rfl (hb hby at_152) ?_
      show own_S p e below T70 m 153 #[iv p1, iv p2, iv p3, iv p4, iv (1 : Int32), rv b39, rv b45, iv (1 : Int32), rv b59, rv b67] [(.int (1 : Int32)), (.int (1 : Int32))] _
      refine XS.icmpNo X70.here hx rfl (hb hby at_153) rfl (flt (by decide : ¬ ((1 : Int32) < (1 : Int32)))).1 ?_
      show own_S p e below T70 m 156 #[iv p1, iv p2, iv p3, iv p4, iv (1 : Int32), rv b39, rv b45, iv (1 : Int32), rv b59, rv b67] [] _
      refine XS.aload X70.here hx rfl (hb hby at_156) rfl rfl ?_
      show own_S p e below T70 m 158 #[iv p1, iv p2, iv p3, iv p4, iv (1 : Int32), rv b39, rv b45, iv (1 : Int32), rv b59, rv b67] [(.ref b67)] _
      refine st72.trans ?_
      show own_S p e below T72 m 161 #[iv p1, iv p2, iv p3, iv p4, iv (1 : Int32), rv b39, rv b45, iv (1 : Int32), rv b59, rv b67] [(.long (own_val (nar .byte ((p2 &&& (127 : Int32)).toInt8.toInt32))))] _
      jvm_step X72.here [X72.here.top, hx, (hb hby at_161), Value.category]
      show own_S p e below T72 m 162 #[iv p1, iv p2, iv p3, iv p4, iv (1 : Int32), rv b39, rv b45, iv (1 : Int32), rv b59, rv b67] [] _
      refine XS.iload X72.here hx rfl (hb hby at_162) rfl ?_
      show own_S p e below T72 m 164 #[iv p1, iv p2, iv p3, iv p4, iv (1 : Int32), rv b39, rv b45, iv (1 : Int32), rv b59, rv b67] [(.int (1 : Int32))] _
      refine XS.ifNo X72.here hx rfl (hb hby at_164) rfl ((if0 _ _).trans (feq (by decide : ¬ ((1 : Int32) = (0 : Int32)))).1) ?_
      show own_S p e below T72 m 167 #[iv p1, iv p2, iv p3, iv p4, iv (1 : Int32), rv b39, rv b45, iv (1 : Int32), rv b59, rv b67] [] _
      refine XS.aload X72.here hx rfl (hb hby at_167) rfl rfl ?_
      show own_S p e below T72 m 169 #[iv p1, iv p2, iv p3, iv p4, iv (1 : Int32), rv b39, rv b45, iv (1 : Int32), rv b59, rv b67] [(.ref b67)] _
      refine st73.trans ?_
      show own_S p e below T73 m 172 #[iv p1, iv p2, iv p3, iv p4, iv (1 : Int32), rv b39, rv b45, iv (1 : Int32), rv b59, rv b67] [(.int (1 : Int32))] _
      refine XS.iload X73.here hx rfl (hb hby at_172) rfl ?_
      show own_S p e below T73 m 174 #[iv p1, iv p2, iv p3, iv p4, iv (1 : Int32), rv b39, rv b45, iv (1 : Int32), rv b59, rv b67] [(.int (1 : Int32)), (.int (1 : Int32))] _
      refine XS.iconst X73.here hx rfl (hb hby at_174) ?_
      show own_S p e below T73 m 175 #[iv p1, iv p2, iv p3, iv p4, iv (1 : Int32), rv b39, rv b45, iv (1 : Int32), rv b59, rv b67] [(.int (1 : Int32)), (.int (1 : Int32)), (.int (1 : Int32))] _
      refine XS.icmpNo X73.here hx rfl (hb hby at_175) rfl (teq (by decide : (1 : Int32) = (1 : Int32))).2 ?_
      show own_S p e below T73 m 178 #[iv p1, iv p2, iv p3, iv p4, iv (1 : Int32), rv b39, rv b45, iv (1 : Int32), rv b59, rv b67] [(.int (1 : Int32))] _
      refine XS.iconst X73.here hx rfl (hb hby at_178) ?_
      show own_S p e below T73 m 179 #[iv p1, iv p2, iv p3, iv p4, iv (1 : Int32), rv b39, rv b45, iv (1 : Int32), rv b59, rv b67] [(.int (1 : Int32)), (.int (1 : Int32))] _
      refine XS.goto X73.here hx rfl (pc0 := 179) (pc' := 183) rfl (hb hby at_179) (by decide) (by decide) ?_
      show own_S p e below T73 m 183 #[iv p1, iv p2, iv p3, iv p4, iv (1 : Int32), rv b39, rv b45, iv (1 : Int32), rv b59, rv b67] [(.int (1 : Int32)), (.int (1 : Int32))] _
      refine XS.icmpNo X73.here hx rfl (hb hby at_183) rfl (teq (by decide : (1 : Int32) = (1 : Int32))).2 ?_
      show own_S p e below T73 m 186 #[iv p1, iv p2, iv p3, iv p4, iv (1 : Int32), rv b39, rv b45, iv (1 : Int32), rv b59, rv b67] [] _
      refine XS.iconst X73.here hx rfl (hb hby at_186) ?_
      show own_S p e below T73 m 187 #[iv p1, iv p2, iv p3, iv p4, iv (1 : Int32), rv b39, rv b45, iv (1 : Int32), rv b59, rv b67] [(.int (1 : Int32))] _
      refine XS.goto X73.here hx rfl (pc0 := 187) (pc' := 191) rfl (hb hby at_187) (by decide) (by decide) ?_
      show own_S p e below T73 m 191 #[iv p1, iv p2, iv p3, iv p4, iv (1 : Int32), rv b39, rv b45, iv (1 : Int32), rv b59, rv b67] [(.int (1 : Int32))] _
      refine XS.istore X73.here hx rfl (hb hby at_191) rfl (l' := #[iv p1, iv p2, iv p3, iv p4, iv (1 : Int32), rv b39, rv b45, iv (1 : Int32), rv b59, rv b67]) rfl ?_
      show own_S p e below T73 m 193 #[iv p1, iv p2, iv p3, iv p4, iv (1 : Int32), rv b39, rv b45, iv (1 : Int32), rv b59, rv b67] [] _
      refine XS.iload X73.here hx rfl (hb hby at_193) rfl ?_
      show own_S p e below T73 m 195 #[iv p1, iv p2, iv p3, iv p4, iv (1 : Int32), rv b39, rv b45, iv (1 : Int32), rv b59, rv b67] [(.int (1 : Int32))] _
      refine XS.iconst X73.here hx rfl (hb hby at_195) ?_
      show own_S p e below T73 m 196 #[iv p1, iv p2, iv p3, iv p4, iv (1 : Int32), rv b39, rv b45, iv (1 : Int32), rv b59, rv b67] [(.int (2 : Int32)), (.int (1 : Int32))] _
      refine XS.icmpNo X73.here hx rfl (hb hby at_196) rfl (flt (by decide : ¬ ((2 : Int32) < (1 : Int32)))).2.2.1 ?_
      show own_S p e below T73 m 199 #[iv p1, iv p2, iv p3, iv p4, iv (1 : Int32), rv b39, rv b45, iv (1 : Int32), rv b59, rv b67] [] _
      refine XS.aload X73.here hx rfl (hb hby at_199) rfl rfl ?_
      show own_S p e below T73 m 201 #[iv p1, iv p2, iv p3, iv p4, iv (1 : Int32), rv b39, rv b45, iv (1 : Int32), rv b59, rv b67] [(.ref b59)] _
      refine st80.trans ?_
      show own_S p e below T80 m 204 #[iv p1, iv p2, iv p3, iv p4, iv (1 : Int32), rv b39, rv b45, iv (1 : Int32), rv b59, rv b67] [(.long (own_val (nar .byte ((p3 &&& (127 : Int32)).toInt8.toInt32))))] _
      jvm_step X80.here [X80.here.top, hx, (hb hby at_204), Value.category]
      show own_S p e below T80 m 205 #[iv p1, iv p2, iv p3, iv p4, iv (1 : Int32), rv b39, rv b45, iv (1 : Int32), rv b59, rv b67] [] _
      refine XS.iload X80.here hx rfl (hb hby at_205) rfl ?_
      show own_S p e below T80 m 207 #[iv p1, iv p2, iv p3, iv p4, iv (1 : Int32), rv b39, rv b45, iv (1 : Int32), rv b59, rv b67] [(.int (1 : Int32))] _
      refine XS.ifNo X80.here hx rfl (hb hby at_207) rfl ((if0 _ _).trans (feq (by decide : ¬ ((1 : Int32) = (0 : Int32)))).1) ?_
      show own_S p e below T80 m 210 #[iv p1, iv p2, iv p3, iv p4, iv (1 : Int32), rv b39, rv b45, iv (1 : Int32), rv b59, rv b67] [] _
      refine XS.aload X80.here hx rfl (hb hby at_210) rfl rfl ?_
      show own_S p e below T80 m 212 #[iv p1, iv p2, iv p3, iv p4, iv (1 : Int32), rv b39, rv b45, iv (1 : Int32), rv b59, rv b67] [(.ref b59)] _
      refine st81.trans ?_
      show own_S p e below T81 m 215 #[iv p1, iv p2, iv p3, iv p4, iv (1 : Int32), rv b39, rv b45, iv (1 : Int32), rv b59, rv b67] [(.int (0 : Int32))] _
      refine XS.iload X81.here hx rfl (hb hby at_215) rfl ?_
      show own_S p e below T81 m 217 #[iv p1, iv p2, iv p3, iv p4, iv (1 : Int32), rv b39, rv b45, iv (1 : Int32), rv b59, rv b67] [(.int (1 : Int32)), (.int (0 : Int32))] _
      refine XS.iconst X81.here hx rfl (hb hby at_217) ?_
      show own_S p e below T81 m 218 #[iv p1, iv p2, iv p3, iv p4, iv (1 : Int32), rv b39, rv b45, iv (1 : Int32), rv b59, rv b67] [(.int (2 : Int32)), (.int (1 : Int32)), (.int (0 : Int32))] _
      refine XS.icmpYes X81.here hx rfl (pc0 := 218) (pc' := 225) rfl (hb hby at_218) rfl (feq (by decide : ¬ ((1 : Int32) = (2 : Int32)))).2 (by decide) (by decide) ?_
      show own_S p e below T81 m 225 #[iv p1, iv p2, iv p3, iv p4, iv (1 : Int32), rv b39, rv b45, iv (1 : Int32), rv b59, rv b67] [(.int (0 : Int32))] _
      refine XS.iconst X81.here hx rfl (hb hby at_225) ?_
      show own_S p e below T81 m 226 #[iv p1, iv p2, iv p3, iv p4, iv (1 : Int32), rv b39, rv b45, iv (1 : Int32), rv b59, rv b67] [(.int (0 : Int32)), (.int (0 : Int32))] _
      refine XS.icmpNo X81.here hx rfl (hb hby at_226) rfl (teq (by decide : (0 : Int32) = (0 : Int32))).2 ?_
      show own_S p e below T81 m 229 #[iv p1, iv p2, iv p3, iv p4, iv (1 : Int32), rv b39, rv b45, iv (1 : Int32), rv b59, rv b67] [] _
      refine XS.iconst X81.here hx rfl (hb hby at_229) ?_
      show own_S p e below T81 m 230 #[iv p1, iv p2, iv p3, iv p4, iv (1 : Int32), rv b39, rv b45, iv (1 : Int32), rv b59, rv b67] [(.int (1 : Int32))] _
      refine XS.goto X81.here hx rfl (pc0 := 230) (pc' := 234) rfl (hb hby at_230) (by decide) (by decide) ?_
      show own_S p e below T81 m 234 #[iv p1, iv p2, iv p3, iv p4, iv (1 : Int32), rv b39, rv b45, iv (1 : Int32), rv b59, rv b67] [(.int (1 : Int32))] _
      refine XS.istore X81.here hx rfl (hb hby at_234) rfl (l' := #[iv p1, iv p2, iv p3, iv p4, iv (1 : Int32), rv b39, rv b45, iv (1 : Int32), rv b59, rv b67]) rfl ?_
      show own_S p e below T81 m 236 #[iv p1, iv p2, iv p3, iv p4, iv (1 : Int32), rv b39, rv b45, iv (1 : Int32), rv b59, rv b67] [] _
      refine XS.iload X81.here hx rfl (hb hby at_236) rfl ?_
      exact k)
    obtain ⟨fs, hr, hrun, hended, hW, hsame⟩ := X81.leave (v := some (.int (nar .boolean (1 : Int32)))) (fun h => by rw [Bd.returns] at h; cases h)
    refine ⟨_, _, pre83 _ ?_, hrun, hended, _, _, rfl, ?_, ⟨_, rfl⟩, hW, hsame.mono (by decide) (by decide)⟩
    · show own_S p e below T81 m 238 #[iv p1, iv p2, iv p3, iv p4, iv (1 : Int32), rv b39, rv b45, iv (1 : Int32), rv b59, rv b67] [(.int (1 : Int32))] _
      exact retN X81 hx (t := .boolean) Bd.returns (by simp) (hb hby at_238) hr
    · show Q0 Z p1 p2 p3 p4 h0 n0 _ T81.heap _
      rw [e81]
      exact ⟨rfl, N81⟩
  ·  -- case
    obtain ⟨T84, h84, k84, X84, e84, E84, A84, st84⟩ := newP X0 hx hZ (hw _ (List.mem_of_getElem? (i := 0) rfl)) e0 (g := (mkF m 6 #[iv p1, iv p2, iv p3, iv p4, iv (2 : Int32), .unset, .unset, .unset, .unset, .unset] [(.int (4 : Int32))])) rfl (hb hby at_6) rfl (by decide) (cap := 4) (by decide) (by decide) (by decide) (by decide)
    obtain ⟨b84, g84⟩ : ∃ z, z = h0.size := ⟨_, rfl⟩
    rw [← g84] at A84 st84
    have g_b84 : n0 ≤ b84 := Nat.le_trans Z0 (Nat.le_of_eq g84.symm)
    have sz_b84 : h0.size ≤ b84 := Nat.le_trans ((Keep.refl h0 [])).1 (Nat.le_of_eq g84.symm)
    have V_b84 : Arv Z h84 b84 k84 .byte (4 : Int32) [(.int (0 : Int32)), (.int (0 : Int32)), (.int (0 : Int32)), (.int (0 : Int32))] (.int (0 : Int32)) := (Arv.new A84 (by decide)).pad (pad_rep [] (.int (0 : Int32)) 4)
    obtain ⟨cl85, Ar85, q85, S85, M85, H85, G85⟩ := id V_b84
    have hin85 : ¬ ((0 : Int32) < 0 ∨ cl85.slots.size ≤ ((0 : Int32)).toNatClampNeg) := inb_of S85 ⟨by decide, by decide⟩
    obtain ⟨T85, h85, X85, e85, W85, st85⟩ := stB X84 hx hZ e84 Ar85 (j := (0 : Int32)) hin85 (g := (mkF m 16 #[iv p1, iv p2, iv p3, iv p4, iv (2 : Int32), rv b84, .unset, .unset, .unset, .unset] [(.int ((2 : Int32).toInt8.toInt32)), (.int (0 : Int32)), (.ref b84)])) rfl rfl (hb hby at_16)
    have V85 : Arv Z h85 b84 k84 .byte (4 : Int32) [(.int (nar .byte ((2 : Int32).toInt8.toInt32))), (.int (0 : Int32)), (.int (0 : Int32)), (.int (0 : Int32))] (.int (0 : Int32)) := Arv.set Ar85 q85 S85 M85 H85 G85 (fits_nar_byte _) W85 0 rfl (Nat.le_of_ble_eq_true rfl)
    have N85 := Fr.snoc X85 N0 g_b84
    obtain ⟨cl86, Ar86, q86, S86, M86, H86, G86⟩ := id V85
    have hin86 : ¬ ((1 : Int32) < 0 ∨ cl86.slots.size ≤ ((1 : Int32)).toNatClampNeg) := inb_of S86 ⟨by decide, by decide⟩
    obtain ⟨T86, h86, X86, e86, W86, st86⟩ := stB X85 hx hZ e85 Ar86 (j := (1 : Int32)) hin86 (g := (mkF m 25 #[iv p1, iv p2, iv p3, iv p4, iv (2 : Int32), rv b84, .unset, .unset, .unset, .unset] [(.int ((p2 &&& (127 : Int32)).toInt8.toInt32)), (.int (1 : Int32)), (.ref b84)])) rfl rfl (hb hby at_25)
    have V86 : Arv Z h86 b84 k84 .byte (4 : Int32) [(.int (nar .byte ((2 : Int32).toInt8.toInt32))), (.int (nar .byte ((p2 &&& (127 : Int32)).toInt8.toInt32))), (.int (0 : Int32)), (.int (0 : Int32))] (.int (0 : Int32)) := Arv.set Ar86 q86 S86 M86 H86 G86 (fits_nar_byte _) W86 1 rfl (Nat.le_of_ble_eq_true rfl)
    have N86 := Fr.snoc X86 N85 g_b84
    obtain ⟨cl87, Ar87, q87, S87, M87, H87, G87⟩ := id V86
    have hin87 : ¬ ((2 : Int32) < 0 ∨ cl87.slots.size ≤ ((2 : Int32)).toNatClampNeg) := inb_of S87 ⟨by decide, by decide⟩
    obtain ⟨T87, h87, X87, e87, W87, st87⟩ := stB X86 hx hZ e86 Ar87 (j := (2 : Int32)) hin87 (g := (mkF m 34 #[iv p1, iv p2, iv p3, iv p4, iv (2 : Int32), rv b84, .unset, .unset, .unset, .unset] [(.int ((p3 &&& (127 : Int32)).toInt8.toInt32)), (.int (2 : Int32)), (.ref b84)])) rfl rfl (hb hby at_34)
    have V87 : Arv Z h87 b84 k84 .byte (4 : Int32) [(.int (nar .byte ((2 : Int32).toInt8.toInt32))), (.int (nar .byte ((p2 &&& (127 : Int32)).toInt8.toInt32))), (.int (nar .byte ((p3 &&& (127 : Int32)).toInt8.toInt32))), (.int (0 : Int32))] (.int (0 : Int32)) := Arv.set Ar87 q87 S87 M87 H87 G87 (fits_nar_byte _) W87 2 rfl (Nat.le_of_ble_eq_true rfl)
    have N87 := Fr.snoc X87 N86 g_b84
    obtain ⟨cl88, Ar88, q88, S88, M88, H88, G88⟩ := id V87
    have hin88 : ¬ ((3 : Int32) < 0 ∨ cl88.slots.size ≤ ((3 : Int32)).toNatClampNeg) := inb_of S88 ⟨by decide, by decide⟩
    obtain ⟨T88, h88, X88, e88, W88, st88⟩ := stB X87 hx hZ e87 Ar88 (j := (3 : Int32)) hin88 (g := (mkF m 43 #[iv p1, iv p2, iv p3, iv p4, iv (2 : Int32), rv b84, .unset, .unset, .unset, .unset] [(.int ((p4 &&& (127 : Int32)).toInt8.toInt32)), (.int (3 : Int32)), (.ref b84)])) rfl rfl (hb hby at_43)
    have V88 : Arv Z h88 b84 k84 .byte (4 : Int32) [(.int (nar .byte ((2 : Int32).toInt8.toInt32))), (.int (nar .byte ((p2 &&& (127 : Int32)).toInt8.toInt32))), (.int (nar .byte ((p3 &&& (127 : Int32)).toInt8.toInt32))), (.int (nar .byte ((p4 &&& (127 : Int32)).toInt8.toInt32)))] (.int (0 : Int32)) := Arv.set Ar88 q88 S88 M88 H88 G88 (fits_nar_byte _) W88 3 rfl (Nat.le_of_ble_eq_true rfl)
    have N88 := Fr.snoc X88 N87 g_b84
    have Zs89 : n0 ≤ h88.size := (Nat.le_trans (Nat.le_trans (Nat.le_trans (Nat.le_trans (Nat.le_trans Z0 E84.1) (Keep.of_wr W85).1) (Keep.of_wr W86).1) (Keep.of_wr W87).1) (Keep.of_wr W88).1)
    obtain ⟨T90, h90, X90, e90, E90, A90, D90, -, st90⟩ := newO X88 hx hZ hown (hw _ (List.mem_of_getElem? (i := 1) rfl)) (hw _ (List.mem_of_getElem? (i := 2) rfl)) (hw _ (List.mem_of_getElem? (i := 3) rfl)) e88 (g := (mkF m 44 #[iv p1, iv p2, iv p3, iv p4, iv (2 : Int32), rv b84, .unset, .unset, .unset, .unset] [])) rfl (hb hby at_44) (by decide) (by decide)
    obtain ⟨b90, g90⟩ : ∃ z, z = h88.size := ⟨_, rfl⟩
    rw [← g90] at A90 D90 st90
    have g_b90 : n0 ≤ b90 := Nat.le_trans Zs89 (Nat.le_of_eq g90.symm)
    have sz_b90 : h0.size ≤ b90 := Nat.le_trans (((((((Keep.refl h0 []).ext E84).wr W85 (Or.inr sz_b84)).wr W86 (Or.inr sz_b84)).wr W87 (Or.inr sz_b84)).wr W88 (Or.inr sz_b84))).1 (Nat.le_of_eq g90.symm)
    have ne_b84_b90 : b84 ≠ b90 := Nat.ne_of_lt (Nat.lt_of_lt_of_le V88.lt (Nat.le_of_eq g90.symm))
    have F__bytes_b90 : Fld Z h90 b90 "com/example/converge/converge/runtime/WireReader" "_bytes" "[B" .null := D90 (Or.inr (hw _ (List.mem_of_getElem? (i := 14) rfl))) (ty := (.array .byte)) (by decide)
    have F__position_b90 : Fld Z h90 b90 "com/example/converge/converge/runtime/WireReader" "_position" "I" (.int (0 : Int32)) := D90 (Or.inl (hw _ (List.mem_of_getElem? (i := 16) rfl))) (ty := .int) (by decide)
    have F__end_b90 : Fld Z h90 b90 "com/example/converge/converge/runtime/WireReader" "_end" "I" (.int (0 : Int32)) := D90 (Or.inr (hw _ (List.mem_of_getElem? (i := 18) rfl))) (ty := .int) (by decide)
    have Zs91 : n0 ≤ h90.size := (Nat.le_trans Zs89 E90.1)
    have Vn_92 := (V88.ext E90)
    obtain ⟨T93, h93, k93, X93, e93, E93, A93, st93⟩ := newP X90 hx hZ (hw _ (List.mem_of_getElem? (i := 0) rfl)) e90 (g := (mkF m 49 #[iv p1, iv p2, iv p3, iv p4, iv (2 : Int32), rv b84, .unset, .unset, .unset, .unset] [(.int (0 : Int32)), (.ref b90), (.ref b90)])) rfl (hb hby at_49) rfl (by decide) (cap := 0) (by decide) (by decide) (by decide) (by decide)
    obtain ⟨b93, g93⟩ : ∃ z, z = h90.size := ⟨_, rfl⟩
    rw [← g93] at A93 st93
    have g_b93 : n0 ≤ b93 := Nat.le_trans Zs91 (Nat.le_of_eq g93.symm)
    have sz_b93 : h0.size ≤ b93 := Nat.le_trans ((((((((Keep.refl h0 []).ext E84).wr W85 (Or.inr sz_b84)).wr W86 (Or.inr sz_b84)).wr W87 (Or.inr sz_b84)).wr W88 (Or.inr sz_b84)).ext E90)).1 (Nat.le_of_eq g93.symm)
    have ne_b84_b93 : b84 ≠ b93 := Nat.ne_of_lt (Nat.lt_of_lt_of_le Vn_92.lt (Nat.le_of_eq g93.symm))
    have ne_b90_b93 : b90 ≠ b93 := Nat.ne_of_lt (Nat.lt_of_lt_of_le F__end_b90.lt (Nat.le_of_eq g93.symm))
    have V_b93 : Arv Z h93 b93 k93 .byte (0 : Int32) [] (.int (0 : Int32)) := (Arv.new A93 (by decide)).pad (pad_rep [] (.int (0 : Int32)) 0)
    have En_94 := (A90.ext E93)
    have Fn_95 := (F__bytes_b90.ext E93)
    have Fn_96 := (F__position_b90.ext E93)
    have Fn_97 := (F__end_b90.ext E93)
    have Zs99 : n0 ≤ h93.size := (Nat.le_trans Zs91 E93.1)
    obtain ⟨_, _, ⟨T98, L98, k98, n98⟩, -, X98, ⟨Lc98, hQ98, l98, y98, z98⟩, st98⟩ := X93.specialBack hx (y := (⟨"com/example/converge/converge/runtime/WireReader", "<init>", "([B)V"⟩ : MethodName)) rfl hown (mvT hZ (hw _ (List.mem_of_getElem? (i := 4) rfl))) (mvT hZ (hw _ (List.mem_of_getElem? (i := 5) rfl))) (mvT hZ (hw _ (List.mem_of_getElem? (i := 6) rfl))) (by decide) (backOf (W := 1) (rm1 l Z a0 hw [] b90 b93 k93 (0 : Int32) [] h93 n0 Zs99 En_94 g_b90 Fn_95 Fn_96 Fn_97 V_b93) hZ (hw _ (List.mem_of_getElem? (i := 6) rfl)) (hw _ (List.mem_of_getElem? (i := 3) rfl)) (by decide) (by decide)) (g := (mkF m 51 #[iv p1, iv p2, iv p3, iv p4, iv (2 : Int32), rv b84, .unset, .unset, .unset, .unset] [(.ref b93), (.ref b90), (.ref b90)])) rfl (by rw [hml]; rfl) (Steps.refl _) (a := b90) (argsL := [(.ref b93)]) (rest := [(.ref b90)]) (lenOf pd_3 rfl) rfl (by show 2 * 0 + _ ≤ _; exact Nat.le_of_eq rfl) (hb hby at_51) (fun _ _ => ⟨rfl, e93, (by decide : 3 + 0 ≤ _), (by decide : 7 + 0 ≤ _)⟩)
    dsimp only [Pt.U, Pt.locs, Pt.cells, Pt.slots] at X98 l98 y98 z98 st98 hQ98
    subst l98 y98 z98
    obtain ⟨rfl, N98q, K98, E98c, Fb98, Fp98, Fe98⟩ := hQ98
    have N98 := Fr.app N88 N98q
    have Zs101 : n0 ≤ T98.heap.size := (Nat.le_trans Zs99 K98.1)
    obtain ⟨cq100, kq100, q100a, q100b, q100c⟩ := isOf hZ rfl E98c
    obtain ⟨_, _, ⟨T100, L100, k100, n100⟩, -, X100, ⟨Lc100, hQ100, l100, y100, z100⟩, st100⟩ := X98.virtualBack hx (y := (⟨"com/example/converge/converge/runtime/WireReader", "isAtEnd", "()Z"⟩ : MethodName)) (z := (⟨"com/example/converge/converge/runtime/WireReader", "isAtEnd", "()Z"⟩ : MethodName)) hown (mvT hZ (hw _ (List.mem_of_getElem? (i := 19) rfl))) (mvT hZ (hw _ (List.mem_of_getElem? (i := 20) rfl))) (notFace_of_selects (args := #[]) (mvT hZ (hw _ (List.mem_of_getElem? (i := 22) rfl)))) (mvT hZ (hw _ (List.mem_of_getElem? (i := 22) rfl))) (mvT hZ (hw _ (List.mem_of_getElem? (i := 21) rfl))) (by decide) (backOf (W := 0) (rm4 l Z a0 hw [] b90 (0 : Int32) (0 : Int32) T98.heap n0 Zs101 Fp98 Fe98) hZ (hw _ (List.mem_of_getElem? (i := 23) rfl)) (hw _ (List.mem_of_getElem? (i := 3) rfl)) (by decide) (by decide)) q100a q100c (g := (mkF m 58 #[iv p1, iv p2, iv p3, iv p4, iv (2 : Int32), rv b84, rv b90, .unset, .unset, .unset] [(.ref b90)])) rfl (by rw [hml]; rfl) (Steps.refl _) (argsL := []) (rest := []) (lenOf pd_4 rfl) rfl (by show 2 * 0 + _ ≤ _; exact Nat.le_of_eq rfl) (hb hby at_58) (fun _ _ => ⟨rfl, rfl, (by decide : 3 + 0 ≤ _), (by decide : 7 + 0 ≤ _)⟩)
    dsimp only [Pt.U, Pt.locs, Pt.cells, Pt.slots] at X100 l100 y100 z100 st100 hQ100
    subst l100 y100 z100
    obtain ⟨hv100, N100q, e100q⟩ := hQ100
    have N100 := Fr.app N98 N100q
    rw [show own_end (0 : Int32) (0 : Int32) = (1 : Int32) from by decide] at hv100
    subst hv100
    have e100 : T100.heap = T98.heap := e100q
    have Vn_102 := ((Vn_92.ext E93).keep K98 (ninS ne_b84_b90 nin0))
    have Vn_103 := (V_b93.keep K98 (ninS (Ne.symm ne_b90_b93) nin0))
    obtain ⟨T104, h104, X104, e104, E104, A104, D104, -, st104⟩ := newO X100 hx hZ hown (hw _ (List.mem_of_getElem? (i := 1) rfl)) (hw _ (List.mem_of_getElem? (i := 2) rfl)) (hw _ (List.mem_of_getElem? (i := 3) rfl)) e100 (g := (mkF m 63 #[iv p1, iv p2, iv p3, iv p4, iv (2 : Int32), rv b84, rv b90, iv (1 : Int32), .unset, .unset] [])) rfl (hb hby at_63) (by decide) (by decide)
    obtain ⟨b104, g104⟩ : ∃ z, z = T98.heap.size := ⟨_, rfl⟩
    rw [← g104] at A104 D104 st104
    have g_b104 : n0 ≤ b104 := Nat.le_trans Zs101 (Nat.le_of_eq g104.symm)
    have sz_b104 : h0.size ≤ b104 := Nat.le_trans ((((((((((Keep.refl h0 []).ext E84).wr W85 (Or.inr sz_b84)).wr W86 (Or.inr sz_b84)).wr W87 (Or.inr sz_b84)).wr W88 (Or.inr sz_b84)).ext E90).ext E93).trans K98 (allS (Or.inr sz_b90) all0))).1 (Nat.le_of_eq g104.symm)
    have ne_b84_b104 : b84 ≠ b104 := Nat.ne_of_lt (Nat.lt_of_lt_of_le Vn_102.lt (Nat.le_of_eq g104.symm))
    have ne_b90_b104 : b90 ≠ b104 := Nat.ne_of_lt (Nat.lt_of_lt_of_le Fe98.lt (Nat.le_of_eq g104.symm))
    have ne_b93_b104 : b93 ≠ b104 := Nat.ne_of_lt (Nat.lt_of_lt_of_le Vn_103.lt (Nat.le_of_eq g104.symm))
    have F__bytes_b104 : Fld Z h104 b104 "com/example/converge/converge/runtime/WireReader" "_bytes" "[B" .null := D104 (Or.inr (hw _ (List.mem_of_getElem? (i := 14) rfl))) (ty := (.array .byte)) (by decide)
    have F__position_b104 : Fld Z h104 b104 "com/example/converge/converge/runtime/WireReader" "_position" "I" (.int (0 : Int32)) := D104 (Or.inl (hw _ (List.mem_of_getElem? (i := 16) rfl))) (ty := .int) (by decide)
    have F__end_b104 : Fld Z h104 b104 "com/example/converge/converge/runtime/WireReader" "_end" "I" (.int (0 : Int32)) := D104 (Or.inr (hw _ (List.mem_of_getElem? (i := 18) rfl))) (ty := .int) (by decide)
    have Vn_105 := (Vn_102.ext E104)
    have Zs107 : n0 ≤ h104.size := (Nat.le_trans Zs101 E104.1)
    obtain ⟨_, _, ⟨T106, L106, k106, n106⟩, -, X106, ⟨Lc106, hQ106, l106, y106, z106⟩, st106⟩ := X104.specialBack hx (y := (⟨"com/example/converge/converge/runtime/WireReader", "<init>", "([B)V"⟩ : MethodName)) rfl hown (mvT hZ (hw _ (List.mem_of_getElem? (i := 4) rfl))) (mvT hZ (hw _ (List.mem_of_getElem? (i := 5) rfl))) (mvT hZ (hw _ (List.mem_of_getElem? (i := 6) rfl))) (by decide) (backOf (W := 1) (rm1 l Z a0 hw [] b104 b84 k84 (4 : Int32) [(.int (nar .byte ((2 : Int32).toInt8.toInt32))), (.int (nar .byte ((p2 &&& (127 : Int32)).toInt8.toInt32))), (.int (nar .byte ((p3 &&& (127 : Int32)).toInt8.toInt32))), (.int (nar .byte ((p4 &&& (127 : Int32)).toInt8.toInt32)))] h104 n0 Zs107 A104 g_b104 F__bytes_b104 F__position_b104 F__end_b104 Vn_105) hZ (hw _ (List.mem_of_getElem? (i := 6) rfl)) (hw _ (List.mem_of_getElem? (i := 3) rfl)) (by decide) (by decide)) (g := (mkF m 69 #[iv p1, iv p2, iv p3, iv p4, iv (2 : Int32), rv b84, rv b90, iv (1 : Int32), .unset, .unset] [(.ref b84), (.ref b104), (.ref b104)])) rfl (by rw [hml]; rfl) (Steps.refl _) (a := b104) (argsL := [(.ref b84)]) (rest := [(.ref b104)]) (lenOf pd_3 rfl) rfl (by show 2 * 0 + _ ≤ _; exact Nat.le_of_eq rfl) (hb hby at_69) (fun _ _ => ⟨rfl, e104, (by decide : 4 + 0 ≤ _), (by decide : 10 + 0 ≤ _)⟩)
    dsimp only [Pt.U, Pt.locs, Pt.cells, Pt.slots] at X106 l106 y106 z106 st106 hQ106
    subst l106 y106 z106
    obtain ⟨rfl, N106q, K106, E106c, Fb106, Fp106, Fe106⟩ := hQ106
    have N106 := Fr.app N100 N106q
    have Zs109 : n0 ≤ T106.heap.size := (Nat.le_trans Zs107 K106.1)
    obtain ⟨cq108, kq108, q108a, q108b, q108c⟩ := isOf hZ rfl E106c
    obtain ⟨_, _, ⟨T108, L108, k108, n108⟩, -, X108, ⟨Lc108, hQ108, l108, y108, z108⟩, st108⟩ := X106.virtualBack hx (y := (⟨"com/example/converge/converge/runtime/WireReader", "isAtEnd", "()Z"⟩ : MethodName)) (z := (⟨"com/example/converge/converge/runtime/WireReader", "isAtEnd", "()Z"⟩ : MethodName)) hown (mvT hZ (hw _ (List.mem_of_getElem? (i := 19) rfl))) (mvT hZ (hw _ (List.mem_of_getElem? (i := 20) rfl))) (notFace_of_selects (args := #[]) (mvT hZ (hw _ (List.mem_of_getElem? (i := 22) rfl)))) (mvT hZ (hw _ (List.mem_of_getElem? (i := 22) rfl))) (mvT hZ (hw _ (List.mem_of_getElem? (i := 21) rfl))) (by decide) (backOf (W := 0) (rm4 l Z a0 hw [] b104 (0 : Int32) (4 : Int32) T106.heap n0 Zs109 Fp106 Fe106) hZ (hw _ (List.mem_of_getElem? (i := 23) rfl)) (hw _ (List.mem_of_getElem? (i := 3) rfl)) (by decide) (by decide)) q108a q108c (g := (mkF m 81 #[iv p1, iv p2, iv p3, iv p4, iv (2 : Int32), rv b84, rv b90, iv (1 : Int32), rv b104, .unset] [(.ref b104)])) rfl (by rw [hml]; rfl) (Steps.refl _) (argsL := []) (rest := []) (lenOf pd_4 rfl) rfl (by show 2 * 0 + _ ≤ _; exact Nat.le_of_eq rfl) (hb hby at_81) (fun _ _ => ⟨rfl, rfl, (by decide : 4 + 0 ≤ _), (by decide : 10 + 0 ≤ _)⟩)
    dsimp only [Pt.U, Pt.locs, Pt.cells, Pt.slots] at X108 l108 y108 z108 st108 hQ108
    subst l108 y108 z108
    obtain ⟨hv108, N108q, e108q⟩ := hQ108
    have N108 := Fr.app N106 N108q
    rw [show own_end (0 : Int32) (4 : Int32) = (0 : Int32) from by decide] at hv108
    subst hv108
    have e108 : T108.heap = T106.heap := e108q
    have Vn_110 := (Vn_105.keep K106 (ninS ne_b84_b104 nin0))
    have En_111 := ((E98c.ext E104).keep K106)
    obtain ⟨cq112, kq112, q112a, q112b, q112c⟩ := isOf hZ e108 E106c
    obtain ⟨_, _, ⟨T112, L112, k112, n112⟩, -, X112, ⟨Lc112, hQ112, l112, y112, z112⟩, st112⟩ := X108.virtualBack hx (y := (⟨"com/example/converge/converge/runtime/WireReader", "readEmbedded", "()Lcom/example/converge/converge/runtime/WireReader;"⟩ : MethodName)) (z := (⟨"com/example/converge/converge/runtime/WireReader", "readEmbedded", "()Lcom/example/converge/converge/runtime/WireReader;"⟩ : MethodName)) hown (mvT hZ (hw _ (List.mem_of_getElem? (i := 24) rfl))) (mvT hZ (hw _ (List.mem_of_getElem? (i := 25) rfl))) (notFace_of_selects (args := #[]) (mvT hZ (hw _ (List.mem_of_getElem? (i := 27) rfl)))) (mvT hZ (hw _ (List.mem_of_getElem? (i := 27) rfl))) (mvT hZ (hw _ (List.mem_of_getElem? (i := 26) rfl))) (by decide) (backOf (W := 0) (rm5 l Z a0 hw [] b104 b84 (0 : Int32) (4 : Int32) k84 (4 : Int32) [(.int (nar .byte ((2 : Int32).toInt8.toInt32))), (.int (nar .byte ((p2 &&& (127 : Int32)).toInt8.toInt32))), (.int (nar .byte ((p3 &&& (127 : Int32)).toInt8.toInt32))), (.int (nar .byte ((p4 &&& (127 : Int32)).toInt8.toInt32)))] (nar .byte ((2 : Int32).toInt8.toInt32)) T106.heap n0 Zs109 E106c g_b104 Fb106 Fp106 Fe106 Vn_110 (by decide) ⟨by decide, by decide⟩ rfl (by decide +kernel) ne_b84_b104 (by decide +kernel) (by decide +kernel)) hZ (hw _ (List.mem_of_getElem? (i := 28) rfl)) (hw _ (List.mem_of_getElem? (i := 3) rfl)) (by decide) (by decide)) q112a q112c (g := (mkF m 96 #[iv p1, iv p2, iv p3, iv p4, iv (2 : Int32), rv b84, rv b90, iv (1 : Int32), rv b104, .unset] [(.ref b104)])) rfl (by rw [hml]; rfl) (Steps.refl _) (argsL := []) (rest := []) (lenOf pd_5 rfl) rfl (by show 2 * 0 + _ ≤ _; exact Nat.le_of_eq rfl) (hb hby at_96) (fun _ _ => ⟨rfl, e108, (by decide : 4 + 1 ≤ _), (by decide : 10 + 3 ≤ _)⟩)
    dsimp only [Pt.U, Pt.locs, Pt.cells, Pt.slots] at X112 l112 y112 z112 st112 hQ112
    subst l112 y112 z112
    obtain ⟨b112, rfl, N112q, K112, E112c, Fb112, Fp112, Fe112, g_b112, sz_b112, E112d, Gb112, Gp112, Ge112⟩ := hQ112
    have N112 := Fr.app N108 N112q
    rw [show (((0 : Int32) + (1 : Int32)) + (own_val (nar .byte ((2 : Int32).toInt8.toInt32))).toInt32) = (3 : Int32) from by decide +kernel] at Fp112 Ge112
    rw [show ((0 : Int32) + (1 : Int32)) = (1 : Int32) from by decide] at Gp112
    have ne_b104_b112 : b104 ≠ b112 := Nat.ne_of_lt (Nat.lt_of_lt_of_le E106c.lt sz_b112)
    have ne_b84_b112 : b84 ≠ b112 := Nat.ne_of_lt (Nat.lt_of_lt_of_le Vn_110.lt sz_b112)
    have ne_b90_b112 : b90 ≠ b112 := Nat.ne_of_lt (Nat.lt_of_lt_of_le En_111.lt sz_b112)
    have Zs114 : n0 ≤ T112.heap.size := (Nat.le_trans Zs109 K112.1)
    obtain ⟨cq113, kq113, q113a, q113b, q113c⟩ := isOf hZ rfl E112c
    obtain ⟨_, _, ⟨T113, L113, k113, n113⟩, -, X113, ⟨Lc113, hQ113, l113, y113, z113⟩, st113⟩ := X112.virtualBack hx (y := (⟨"com/example/converge/converge/runtime/WireReader", "isAtEnd", "()Z"⟩ : MethodName)) (z := (⟨"com/example/converge/converge/runtime/WireReader", "isAtEnd", "()Z"⟩ : MethodName)) hown (mvT hZ (hw _ (List.mem_of_getElem? (i := 19) rfl))) (mvT hZ (hw _ (List.mem_of_getElem? (i := 20) rfl))) (notFace_of_selects (args := #[]) (mvT hZ (hw _ (List.mem_of_getElem? (i := 22) rfl)))) (mvT hZ (hw _ (List.mem_of_getElem? (i := 22) rfl))) (mvT hZ (hw _ (List.mem_of_getElem? (i := 21) rfl))) (by decide) (backOf (W := 0) (rm4 l Z a0 hw [] b104 (3 : Int32) (4 : Int32) T112.heap n0 Zs114 Fp112 Fe112) hZ (hw _ (List.mem_of_getElem? (i := 23) rfl)) (hw _ (List.mem_of_getElem? (i := 3) rfl)) (by decide) (by decide)) q113a q113c (g := (mkF m 108 #[iv p1, iv p2, iv p3, iv p4, iv (2 : Int32), rv b84, rv b90, iv (1 : Int32), rv b104, rv b112] [(.ref b104)])) rfl (by rw [hml]; rfl) (Steps.refl _) (argsL := []) (rest := []) (lenOf pd_4 rfl) rfl (by show 2 * 0 + _ ≤ _; exact Nat.le_of_eq rfl) (hb hby at_108) (fun _ _ => ⟨rfl, rfl, (by decide : 5 + 0 ≤ _), (by decide : 13 + 0 ≤ _)⟩)
    dsimp only [Pt.U, Pt.locs, Pt.cells, Pt.slots] at X113 l113 y113 z113 st113 hQ113
    subst l113 y113 z113
    obtain ⟨hv113, N113q, e113q⟩ := hQ113
    have N113 := Fr.app N112 N113q
    rw [show own_end (3 : Int32) (4 : Int32) = (0 : Int32) from by decide] at hv113
    subst hv113
    have e113 : T113.heap = T112.heap := e113q
    obtain ⟨cq115, kq115, q115a, q115b, q115c⟩ := isOf hZ e113 E112d
    obtain ⟨_, _, ⟨T115, L115, k115, n115⟩, -, X115, ⟨Lc115, hQ115, l115, y115, z115⟩, st115⟩ := X113.virtualBack hx (y := (⟨"com/example/converge/converge/runtime/WireReader", "isAtEnd", "()Z"⟩ : MethodName)) (z := (⟨"com/example/converge/converge/runtime/WireReader", "isAtEnd", "()Z"⟩ : MethodName)) hown (mvT hZ (hw _ (List.mem_of_getElem? (i := 19) rfl))) (mvT hZ (hw _ (List.mem_of_getElem? (i := 20) rfl))) (notFace_of_selects (args := #[]) (mvT hZ (hw _ (List.mem_of_getElem? (i := 22) rfl)))) (mvT hZ (hw _ (List.mem_of_getElem? (i := 22) rfl))) (mvT hZ (hw _ (List.mem_of_getElem? (i := 21) rfl))) (by decide) (backOf (W := 0) (rm4 l Z a0 hw [] b112 (1 : Int32) (3 : Int32) T112.heap n0 Zs114 Gp112 Ge112) hZ (hw _ (List.mem_of_getElem? (i := 23) rfl)) (hw _ (List.mem_of_getElem? (i := 3) rfl)) (by decide) (by decide)) q115a q115c (g := (mkF m 127 #[iv p1, iv p2, iv p3, iv p4, iv (2 : Int32), rv b84, rv b90, iv (1 : Int32), rv b104, rv b112] [(.ref b112)])) rfl (by rw [hml]; rfl) (Steps.refl _) (argsL := []) (rest := []) (lenOf pd_4 rfl) rfl (by show 2 * 0 + _ ≤ _; exact Nat.le_of_eq rfl) (hb hby at_127) (fun _ _ => ⟨rfl, e113, (by decide : 5 + 0 ≤ _), (by decide : 13 + 0 ≤ _)⟩)
    dsimp only [Pt.U, Pt.locs, Pt.cells, Pt.slots] at X115 l115 y115 z115 st115 hQ115
    subst l115 y115 z115
    obtain ⟨hv115, N115q, e115q⟩ := hQ115
    have N115 := Fr.app N113 N115q
    rw [show own_end (1 : Int32) (3 : Int32) = (0 : Int32) from by decide] at hv115
    subst hv115
    have e115 : T115.heap = T112.heap := e115q
    have Vn_116 := (Vn_110.keep K112 (ninS ne_b84_b104 nin0))
    obtain ⟨cq117, kq117, q117a, q117b, q117c⟩ := isOf hZ e115 E112d
    obtain ⟨_, _, ⟨T117, L117, k117, n117⟩, -, X117, ⟨Lc117, hQ117, l117, y117, z117⟩, st117⟩ := X115.virtualBack hx (y := (⟨"com/example/converge/converge/runtime/WireReader", "readVarint", "()J"⟩ : MethodName)) (z := (⟨"com/example/converge/converge/runtime/WireReader", "readVarint", "()J"⟩ : MethodName)) hown (mvT hZ (hw _ (List.mem_of_getElem? (i := 39) rfl))) (mvT hZ (hw _ (List.mem_of_getElem? (i := 34) rfl))) (notFace_of_selects (args := #[]) (mvT hZ (hw _ (List.mem_of_getElem? (i := 36) rfl)))) (mvT hZ (hw _ (List.mem_of_getElem? (i := 36) rfl))) (mvT hZ (hw _ (List.mem_of_getElem? (i := 35) rfl))) (by decide) (backOf (W := 0) (rm7 l Z a0 hw [] b112 b84 (1 : Int32) (3 : Int32) k84 (4 : Int32) [(.int (nar .byte ((2 : Int32).toInt8.toInt32))), (.int (nar .byte ((p2 &&& (127 : Int32)).toInt8.toInt32))), (.int (nar .byte ((p3 &&& (127 : Int32)).toInt8.toInt32))), (.int (nar .byte ((p4 &&& (127 : Int32)).toInt8.toInt32)))] (nar .byte ((p2 &&& (127 : Int32)).toInt8.toInt32)) T112.heap n0 Zs114 E112d g_b112 Gb112 Gp112 Ge112 Vn_116 (by decide) ⟨by decide, by decide⟩ rfl (own_nb _)) hZ (hw _ (List.mem_of_getElem? (i := 37) rfl)) (hw _ (List.mem_of_getElem? (i := 3) rfl)) (by decide) (by decide)) q117a q117c (g := (mkF m 158 #[iv p1, iv p2, iv p3, iv p4, iv (2 : Int32), rv b84, rv b90, iv (1 : Int32), rv b104, rv b112] [(.ref b112)])) rfl (by rw [hml]; rfl) (Steps.refl _) (argsL := []) (rest := []) (lenOf pd_1 rfl) rfl (by show 2 * 0 + _ ≤ _; exact Nat.le_of_eq rfl) (hb hby at_158) (fun _ _ => ⟨rfl, e115, (by decide : 5 + 0 ≤ _), (by decide : 13 + 0 ≤ _)⟩)
    dsimp only [Pt.U, Pt.locs, Pt.cells, Pt.slots] at X117 l117 y117 z117 st117 hQ117
    subst l117 y117 z117
    obtain ⟨rfl, N117q, K117, E117c, Fb117, Fp117, Fe117⟩ := hQ117
    have N117 := Fr.app N115 N117q
    rw [show ((1 : Int32) + (1 : Int32)) = (2 : Int32) from by decide] at Fp117
    have Zs119 : n0 ≤ T117.heap.size := (Nat.le_trans Zs114 K117.1)
    obtain ⟨cq118, kq118, q118a, q118b, q118c⟩ := isOf hZ rfl E117c
    obtain ⟨_, _, ⟨T118, L118, k118, n118⟩, -, X118, ⟨Lc118, hQ118, l118, y118, z118⟩, st118⟩ := X117.virtualBack hx (y := (⟨"com/example/converge/converge/runtime/WireReader", "isAtEnd", "()Z"⟩ : MethodName)) (z := (⟨"com/example/converge/converge/runtime/WireReader", "isAtEnd", "()Z"⟩ : MethodName)) hown (mvT hZ (hw _ (List.mem_of_getElem? (i := 19) rfl))) (mvT hZ (hw _ (List.mem_of_getElem? (i := 20) rfl))) (notFace_of_selects (args := #[]) (mvT hZ (hw _ (List.mem_of_getElem? (i := 22) rfl)))) (mvT hZ (hw _ (List.mem_of_getElem? (i := 22) rfl))) (mvT hZ (hw _ (List.mem_of_getElem? (i := 21) rfl))) (by decide) (backOf (W := 0) (rm4 l Z a0 hw [] b112 (2 : Int32) (3 : Int32) T117.heap n0 Zs119 Fp117 Fe117) hZ (hw _ (List.mem_of_getElem? (i := 23) rfl)) (hw _ (List.mem_of_getElem? (i := 3) rfl)) (by decide) (by decide)) q118a q118c (g := (mkF m 169 #[iv p1, iv p2, iv p3, iv p4, iv (2 : Int32), rv b84, rv b90, iv (1 : Int32), rv b104, rv b112] [(.ref b112)])) rfl (by rw [hml]; rfl) (Steps.refl _) (argsL := []) (rest := []) (lenOf pd_4 rfl) rfl (by show 2 * 0 + _ ≤ _; exact Nat.le_of_eq rfl) (hb hby at_169) (fun _ _ => ⟨rfl, rfl, (by decide : 5 + 0 ≤ _), (by decide : 13 + 0 ≤ _)⟩)
    dsimp only [Pt.U, Pt.locs, Pt.cells, Pt.slots] at X118 l118 y118 z118 st118 hQ118
    subst l118 y118 z118
    obtain ⟨hv118, N118q, e118q⟩ := hQ118
    have N118 := Fr.app N117 N118q
    rw [show own_end (2 : Int32) (3 : Int32) = (0 : Int32) from by decide] at hv118
    subst hv118
    have e118 : T118.heap = T117.heap := e118q
    have Vn_120 := (Vn_116.keep K117 (ninS ne_b84_b112 nin0))
    have En_121 := (E112c.keep K117)
    have Fn_122 := (Fb112.keep K117 (ninS ne_b104_b112 nin0))
    have Fn_123 := (Fp112.keep K117 (ninS ne_b104_b112 nin0))
    have Fn_124 := (Fe112.keep K117 (ninS ne_b104_b112 nin0))
    obtain ⟨cq125, kq125, q125a, q125b, q125c⟩ := isOf hZ e118 En_121
    obtain ⟨_, _, ⟨T125, L125, k125, n125⟩, -, X125, ⟨Lc125, hQ125, l125, y125, z125⟩, st125⟩ := X118.virtualBack hx (y := (⟨"com/example/converge/converge/runtime/WireReader", "readVarint", "()J"⟩ : MethodName)) (z := (⟨"com/example/converge/converge/runtime/WireReader", "readVarint", "()J"⟩ : MethodName)) hown (mvT hZ (hw _ (List.mem_of_getElem? (i := 39) rfl))) (mvT hZ (hw _ (List.mem_of_getElem? (i := 34) rfl))) (notFace_of_selects (args := #[]) (mvT hZ (hw _ (List.mem_of_getElem? (i := 36) rfl)))) (mvT hZ (hw _ (List.mem_of_getElem? (i := 36) rfl))) (mvT hZ (hw _ (List.mem_of_getElem? (i := 35) rfl))) (by decide) (backOf (W := 0) (rm7 l Z a0 hw [] b104 b84 (3 : Int32) (4 : Int32) k84 (4 : Int32) [(.int (nar .byte ((2 : Int32).toInt8.toInt32))), (.int (nar .byte ((p2 &&& (127 : Int32)).toInt8.toInt32))), (.int (nar .byte ((p3 &&& (127 : Int32)).toInt8.toInt32))), (.int (nar .byte ((p4 &&& (127 : Int32)).toInt8.toInt32)))] (nar .byte ((p4 &&& (127 : Int32)).toInt8.toInt32)) T117.heap n0 Zs119 En_121 g_b104 Fn_122 Fn_123 Fn_124 Vn_120 (by decide) ⟨by decide, by decide⟩ rfl (own_nb _)) hZ (hw _ (List.mem_of_getElem? (i := 37) rfl)) (hw _ (List.mem_of_getElem? (i := 3) rfl)) (by decide) (by decide)) q125a q125c (g := (mkF m 201 #[iv p1, iv p2, iv p3, iv p4, iv (2 : Int32), rv b84, rv b90, iv (1 : Int32), rv b104, rv b112] [(.ref b104)])) rfl (by rw [hml]; rfl) (Steps.refl _) (argsL := []) (rest := []) (lenOf pd_1 rfl) rfl (by show 2 * 0 + _ ≤ _; exact Nat.le_of_eq rfl) (hb hby at_201) (fun _ _ => ⟨rfl, e118, (by decide : 5 + 0 ≤ _), (by decide : 13 + 0 ≤ _)⟩)
    dsimp only [Pt.U, Pt.locs, Pt.cells, Pt.slots] at X125 l125 y125 z125 st125 hQ125
    subst l125 y125 z125
    obtain ⟨rfl, N125q, K125, E125c, Fb125, Fp125, Fe125⟩ := hQ125
    have N125 := Fr.app N118 N125q
    rw [show ((3 : Int32) + (1 : Int32)) = (4 : Int32) from by decide] at Fp125
    have Zs127 : n0 ≤ T125.heap.size := (Nat.le_trans Zs119 K125.1)
    obtain ⟨cq126, kq126, q126a, q126b, q126c⟩ := isOf hZ rfl E125c
    obtain ⟨_, _, ⟨T126, L126, k126, n126⟩, -, X126, ⟨Lc126, hQ126, l126, y126, z126⟩, st126⟩ := X125.virtualBack hx (y := (⟨"com/example/converge/converge/runtime/WireReader", "isAtEnd", "()Z"⟩ : MethodName)) (z := (⟨"com/example/converge/converge/runtime/WireReader", "isAtEnd", "()Z"⟩ : MethodName)) hown (mvT hZ (hw _ (List.mem_of_getElem? (i := 19) rfl))) (mvT hZ (hw _ (List.mem_of_getElem? (i := 20) rfl))) (notFace_of_selects (args := #[]) (mvT hZ (hw _ (List.mem_of_getElem? (i := 22) rfl)))) (mvT hZ (hw _ (List.mem_of_getElem? (i := 22) rfl))) (mvT hZ (hw _ (List.mem_of_getElem? (i := 21) rfl))) (by decide) (backOf (W := 0) (rm4 l Z a0 hw [] b104 (4 : Int32) (4 : Int32) T125.heap n0 Zs127 Fp125 Fe125) hZ (hw _ (List.mem_of_getElem? (i := 23) rfl)) (hw _ (List.mem_of_getElem? (i := 3) rfl)) (by decide) (by decide)) q126a q126c (g := (mkF m 212 #[iv p1, iv p2, iv p3, iv p4, iv (2 : Int32), rv b84, rv b90, iv (1 : Int32), rv b104, rv b112] [(.ref b104)])) rfl (by rw [hml]; rfl) (Steps.refl _) (argsL := []) (rest := []) (lenOf pd_4 rfl) rfl (by show 2 * 0 + _ ≤ _; exact Nat.le_of_eq rfl) (hb hby at_212) (fun _ _ => ⟨rfl, rfl, (by decide : 5 + 0 ≤ _), (by decide : 13 + 0 ≤ _)⟩)
    dsimp only [Pt.U, Pt.locs, Pt.cells, Pt.slots] at X126 l126 y126 z126 st126 hQ126
    subst l126 y126 z126
    obtain ⟨hv126, N126q, e126q⟩ := hQ126
    have N126 := Fr.app N125 N126q
    rw [show own_end (4 : Int32) (4 : Int32) = (1 : Int32) from by decide] at hv126
    subst hv126
    have e126 : T126.heap = T125.heap := e126q
    have pre128 : ∀ t, own_S p e below T126 m 238 #[iv p1, iv p2, iv p3, iv p4, iv (2 : Int32), rv b84, rv b90, iv (1 : Int32), rv b104, rv b112] [(.int (1 : Int32))] t → Steps p.tables e below (s₁.setTop (entryFrame m #[(.int p1), (.int p2), (.int p3), (.int p4)] maxLocals)) t := fun t k => pre1 t (by
      show own_S p e below s₁ m 5 #[iv p1, iv p2, iv p3, iv p4, iv (2 : Int32), .unset, .unset, .unset, .unset, .unset] [] _
      refine XS.iconst X0.here hx rfl (hb hby at_5) ?_
      show own_S p e below s₁ m 6 #[iv p1, iv p2, iv p3, iv p4, iv (2 : Int32), .unset, .unset, .unset, .unset, .unset] [(.int (4 : Int32))] _
      refine st84 _ ?_
      show own_S p e below T84 m 8 #[iv p1, iv p2, iv p3, iv p4, iv (2 : Int32), .unset, .unset, .unset, .unset, .unset] [(.ref b84)] _
      refine XS.astore X84.here hx rfl (hb hby at_8) rfl rfl (l' := #[iv p1, iv p2, iv p3, iv p4, iv (2 : Int32), rv b84, .unset, .unset, .unset, .unset]) rfl ?_
      show own_S p e below T84 m 10 #[iv p1, iv p2, iv p3, iv p4, iv (2 : Int32), rv b84, .unset, .unset, .unset, .unset] [] _
      refine XS.aload X84.here hx rfl (hb hby at_10) rfl rfl ?_
      show own_S p e below T84 m 12 #[iv p1, iv p2, iv p3, iv p4, iv (2 : Int32), rv b84, .unset, .unset, .unset, .unset] [(.ref b84)] _
      refine XS.iconst X84.here hx rfl (hb hby at_12) ?_
      show own_S p e below T84 m 13 #[iv p1, iv p2, iv p3, iv p4, iv (2 : Int32), rv b84, .unset, .unset, .unset, .unset] [(.int (0 : Int32)), (.ref b84)] _
      refine XS.iload X84.here hx rfl (hb hby at_13) rfl ?_
      show own_S p e below T84 m 15 #[iv p1, iv p2, iv p3, iv p4, iv (2 : Int32), rv b84, .unset, .unset, .unset, .unset] [(.int (2 : Int32)), (.int (0 : Int32)), (.ref b84)] _
      refine XS.i2b X84.here hx rfl (hb hby at_15) rfl ?_
      show own_S p e below T84 m 16 #[iv p1, iv p2, iv p3, iv p4, iv (2 : Int32), rv b84, .unset, .unset, .unset, .unset] [(.int ((2 : Int32).toInt8.toInt32)), (.int (0 : Int32)), (.ref b84)] _
      refine st85 _ ?_
      show own_S p e below T85 m 17 #[iv p1, iv p2, iv p3, iv p4, iv (2 : Int32), rv b84, .unset, .unset, .unset, .unset] [] _
      refine XS.aload X85.here hx rfl (hb hby at_17) rfl rfl ?_
      show own_S p e below T85 m 19 #[iv p1, iv p2, iv p3, iv p4, iv (2 : Int32), rv b84, .unset, .unset, .unset, .unset] [(.ref b84)] _
      refine XS.iconst X85.here hx rfl (hb hby at_19) ?_
      show own_S p e below T85 m 20 #[iv p1, iv p2, iv p3, iv p4, iv (2 : Int32), rv b84, .unset, .unset, .unset, .unset] [(.int (1 : Int32)), (.ref b84)] _
      refine XS.iloadN X85.here hx rfl (hb hby at_20) rfl ?_
      show own_S p e below T85 m 21 #[iv p1, iv p2, iv p3, iv p4, iv (2 : Int32), rv b84, .unset, .unset, .unset, .unset] [(.int p2), (.int (1 : Int32)), (.ref b84)] _
      refine XS.bipush X85.here hx rfl (hb hby at_21) ?_
      show own_S p e below T85 m 23 #[iv p1, iv p2, iv p3, iv p4, iv (2 : Int32), rv b84, .unset, .unset, .unset, .unset] [(.int (127 : Int32)), (.int p2), (.int (1 : Int32)), (.ref b84)] _
      refine XS.iand X85.here hx rfl (hb hby at_23) rfl ?_
      show own_S p e below T85 m 24 #[iv p1, iv p2, iv p3, iv p4, iv (2 : Int32), rv b84, .unset, .unset, .unset, .unset] [(.int (p2 &&& (127 : Int32))), (.int (1 : Int32)), (.ref b84)] _
      refine XS.i2b X85.here hx rfl (hb hby at_24) rfl ?_
      show own_S p e below T85 m 25 #[iv p1, iv p2, iv p3, iv p4, iv (2 : Int32), rv b84, .unset, .unset, .unset, .unset] [(.int ((p2 &&& (127 : Int32)).toInt8.toInt32)), (.int (1 : Int32)), (.ref b84)] _
      refine st86 _ ?_
      show own_S p e below T86 m 26 #[iv p1, iv p2, iv p3, iv p4, iv (2 : Int32), rv b84, .unset, .unset, .unset, .unset] [] _
      refine XS.aload X86.here hx rfl (hb hby at_26) rfl rfl ?_
      show own_S p e below T86 m 28 #[iv p1, iv p2, iv p3, iv p4, iv (2 : Int32), rv b84, .unset, .unset, .unset, .unset] [(.ref b84)] _
      refine XS.iconst X86.here hx rfl (hb hby at_28) ?_
      show own_S p e below T86 m 29 #[iv p1, iv p2, iv p3, iv p4, iv (2 : Int32), rv b84, .unset, .unset, .unset, .unset] [(.int (2 : Int32)), (.ref b84)] _
      refine XS.iloadN X86.here hx rfl (hb hby at_29) rfl ?_
      show own_S p e below T86 m 30 #[iv p1, iv p2, iv p3, iv p4, iv (2 : Int32), rv b84, .unset, .unset, .unset, .unset] [(.int p3), (.int (2 : Int32)), (.ref b84)] _
      refine XS.bipush X86.here hx rfl (hb hby at_30) ?_
      show own_S p e below T86 m 32 #[iv p1, iv p2, iv p3, iv p4, iv (2 : Int32), rv b84, .unset, .unset, .unset, .unset] [(.int (127 : Int32)), (.int p3), (.int (2 : Int32)), (.ref b84)] _
      refine XS.iand X86.here hx rfl (hb hby at_32) rfl ?_
      show own_S p e below T86 m 33 #[iv p1, iv p2, iv p3, iv p4, iv (2 : Int32), rv b84, .unset, .unset, .unset, .unset] [(.int (p3 &&& (127 : Int32))), (.int (2 : Int32)), (.ref b84)] _
      refine XS.i2b X86.here hx rfl (hb hby at_33) rfl ?_
      show own_S p e below T86 m 34 #[iv p1, iv p2, iv p3, iv p4, iv (2 : Int32), rv b84, .unset, .unset, .unset, .unset] [(.int ((p3 &&& (127 : Int32)).toInt8.toInt32)), (.int (2 : Int32)), (.ref b84)] _
      refine st87 _ ?_
      show own_S p e below T87 m 35 #[iv p1, iv p2, iv p3, iv p4, iv (2 : Int32), rv b84, .unset, .unset, .unset, .unset] [] _
      refine XS.aload X87.here hx rfl (hb hby at_35) rfl rfl ?_
      show own_S p e below T87 m 37 #[iv p1, iv p2, iv p3, iv p4, iv (2 : Int32), rv b84, .unset, .unset, .unset, .unset] [(.ref b84)] _
      refine XS.iconst X87.here hx rfl (hb hby at_37) ?_
      show own_S p e below T87 m 38 #[iv p1, iv p2, iv p3, iv p4, iv (2 : Int32), rv b84, .unset, .unset, .unset, .unset] [(.int (3 : Int32)), (.ref b84)] _
      refine XS.iloadN X87.here hx rfl (hb hby at_38) rfl ?_
      show own_S p e below T87 m 39 #[iv p1, iv p2, iv p3, iv p4, iv (2 : Int32), rv b84, .unset, .unset, .unset, .unset] [(.int p4), (.int (3 : Int32)), (.ref b84)] _
      refine XS.bipush X87.here hx rfl (hb hby at_39) ?_
      show own_S p e below T87 m 41 #[iv p1, iv p2, iv p3, iv p4, iv (2 : Int32), rv b84, .unset, .unset, .unset, .unset] [(.int (127 : Int32)), (.int p4), (.int (3 : Int32)), (.ref b84)] _
      refine XS.iand X87.here hx rfl (hb hby at_41) rfl ?_
      show own_S p e below T87 m 42 #[iv p1, iv p2, iv p3, iv p4, iv (2 : Int32), rv b84, .unset, .unset, .unset, .unset] [(.int (p4 &&& (127 : Int32))), (.int (3 : Int32)), (.ref b84)] _
      refine XS.i2b X87.here hx rfl (hb hby at_42) rfl ?_
      show own_S p e below T87 m 43 #[iv p1, iv p2, iv p3, iv p4, iv (2 : Int32), rv b84, .unset, .unset, .unset, .unset] [(.int ((p4 &&& (127 : Int32)).toInt8.toInt32)), (.int (3 : Int32)), (.ref b84)] _
      refine st88 _ ?_
      show own_S p e below T88 m 44 #[iv p1, iv p2, iv p3, iv p4, iv (2 : Int32), rv b84, .unset, .unset, .unset, .unset] [] _
      refine st90 _ ?_
      show own_S p e below T90 m 47 #[iv p1, iv p2, iv p3, iv p4, iv (2 : Int32), rv b84, .unset, .unset, .unset, .unset] [(.ref b90)] _
      refine XS.dup X90.here hx rfl (hb hby at_47) rfl rfl ?_
      show own_S p e below T90 m 48 #[iv p1, iv p2, iv p3, iv p4, iv (2 : Int32), rv b84, .unset, .unset, .unset, .unset] [(.ref b90), (.ref b90)] _
      refine XS.iconst X90.here hx rfl (hb hby at_48) ?_
      show own_S p e below T90 m 49 #[iv p1, iv p2, iv p3, iv p4, iv (2 : Int32), rv b84, .unset, .unset, .unset, .unset] [(.int (0 : Int32)), (.ref b90), (.ref b90)] _
      refine st93 _ ?_
      show own_S p e below T93 m 51 #[iv p1, iv p2, iv p3, iv p4, iv (2 : Int32), rv b84, .unset, .unset, .unset, .unset] [(.ref b93), (.ref b90), (.ref b90)] _
      refine st98.trans ?_
      show own_S p e below T98 m 54 #[iv p1, iv p2, iv p3, iv p4, iv (2 : Int32), rv b84, .unset, .unset, .unset, .unset] [(.ref b90)] _
      refine XS.astore X98.here hx rfl (hb hby at_54) rfl rfl (l' := #[iv p1, iv p2, iv p3, iv p4, iv (2 : Int32), rv b84, rv b90, .unset, .unset, .unset]) rfl ?_
      show own_S p e below T98 m 56 #[iv p1, iv p2, iv p3, iv p4, iv (2 : Int32), rv b84, rv b90, .unset, .unset, .unset] [] _
      refine XS.aload X98.here hx rfl (hb hby at_56) rfl rfl ?_
      show own_S p e below T98 m 58 #[iv p1, iv p2, iv p3, iv p4, iv (2 : Int32), rv b84, rv b90, .unset, .unset, .unset] [(.ref b90)] _
      refine st100.trans ?_
      show own_S p e below T100 m 61 #[iv p1, iv p2, iv p3, iv p4, iv (2 : Int32), rv b84, rv b90, .unset, .unset, .unset] [(.int (1 : Int32))] _
      refine XS.istore X100.here hx rfl (hb hby at_61) rfl (l' := #[iv p1, iv p2, iv p3, iv p4, iv (2 : Int32), rv b84, rv b90, iv (1 : Int32), .unset, .unset]) rfl ?_
      show own_S p e below T100 m 63 #[iv p1, iv p2, iv p3, iv p4, iv (2 : Int32), rv b84, rv b90, iv (1 : Int32), .unset, .unset] [] _
      refine st104 _ ?_
      show own_S p e below T104 m 66 #[iv p1, iv p2, iv p3, iv p4, iv (2 : Int32), rv b84, rv b90, iv (1 : Int32), .unset, .unset] [(.ref b104)] _
      refine XS.dup X104.here hx rfl (hb hby at_66) rfl rfl ?_
      show own_S p e below T104 m 67 #[iv p1, iv p2, iv p3, iv p4, iv (2 : Int32), rv b84, rv b90, iv (1 : Int32), .unset, .unset] [(.ref b104), (.ref b104)] _
      refine XS.aload X104.here hx rfl (hb hby at_67) rfl rfl ?_
      show own_S p e below T104 m 69 #[iv p1, iv p2, iv p3, iv p4, iv (2 : Int32), rv b84, rv b90, iv (1 : Int32), .unset, .unset] [(.ref b84), (.ref b104), (.ref b104)] _
      refine st106.trans ?_
      show own_S p e below T106 m 72 #[iv p1, iv p2, iv p3, iv p4, iv (2 : Int32), rv b84, rv b90, iv (1 : Int32), .unset, .unset] [(.ref b104)] _
      refine XS.astore X106.here hx rfl (hb hby at_72) rfl rfl (l' := #[iv p1, iv p2, iv p3, iv p4, iv (2 : Int32), rv b84, rv b90, iv (1 : Int32), rv b104, .unset]) rfl ?_
      show own_S p e below T106 m 74 #[iv p1, iv p2, iv p3, iv p4, iv (2 : Int32), rv b84, rv b90, iv (1 : Int32), rv b104, .unset] [] _
      refine XS.iload X106.here hx rfl (hb hby at_74) rfl ?_
      show own_S p e below T106 m 76 #[iv p1, iv p2, iv p3, iv p4, iv (2 : Int32), rv b84, rv b90, iv (1 : Int32), rv b104, .unset] [(.int (1 : Int32))] _
      refine XS.ifNo X106.here hx rfl (hb hby at_76) rfl ((if0 _ _).trans (feq (by decide : ¬ ((1 : Int32) = (0 : Int32)))).1) ?_
      show own_S p e below T106 m 79 #[iv p1, iv p2, iv p3, iv p4, iv (2 : Int32), rv b84, rv b90, iv (1 : Int32), rv b104, .unset] [] _
      refine XS.aload X106.here hx rfl (hb hby at_79) rfl rfl ?_
      show own_S p e below T106 m 81 #[iv p1, iv p2, iv p3, iv p4, iv (2 : Int32), rv b84, rv b90, iv (1 : Int32), rv b104, .unset] [(.ref b104)] _
      refine st108.trans ?_
      show own_S p e below T108 m 84 #[iv p1, iv p2, iv p3, iv p4, iv (2 : Int32), rv b84, rv b90, iv (1 : Int32), rv b104, .unset] [(.int (0 : Int32))] _
      refine XS.ifNo X108.here hx rfl (hb hby at_84) rfl ((if0 _ _).trans (teq (by decide : (0 : Int32) = (0 : Int32))).2) ?_
      show own_S p e below T108 m 87 #[iv p1, iv p2, iv p3, iv p4, iv (2 : Int32), rv b84, rv b90, iv (1 : Int32), rv b104, .unset] [] _
      refine XS.iconst X108.here hx rfl (hb hby at_87) ?_
      show own_S p e below T108 m 88 #[iv p1, iv p2, iv p3, iv p4, iv (2 : Int32), rv b84, rv b90, iv (1 : Int32), rv b104, .unset] [(.int (1 : Int32))] _
      refine XS.goto X108.here hx rfl (pc0 := 88) (pc' := 92) rfl (hb hby at_88) (by decide) (by decide) ?_
      show own_S p e below T108 m 92 #[iv p1, iv p2, iv p3, iv p4, iv (2 : Int32), rv b84, rv b90, iv (1 : Int32), rv b104, .unset] [(.int (1 : Int32))] _
      refine XS.istore X108.here hx rfl (hb hby at_92) rfl (l' := #[iv p1, iv p2, iv p3, iv p4, iv (2 : Int32), rv b84, rv b90, iv (1 : Int32), rv b104, .unset]) rfl ?_
      show own_S p e below T108 m 94 #[iv p1, iv p2, iv p3, iv p4, iv (2 : Int32), rv b84, rv b90, iv (1 : Int32), rv b104, .unset] [] _
      refine XS.aload X108.here hx rfl (hb hby at_94) rfl rfl ?_
      show own_S p e below T108 m 96 #[iv p1, iv p2, iv p3, iv p4, iv (2 : Int32), rv b84, rv b90, iv (1 : Int32), rv b104, .unset] [(.ref b104)] _
      refine st112.trans ?_
      show own_S p e below T112 m 99 #[iv p1, iv p2, iv p3, iv p4, iv (2 : Int32), rv b84, rv b90, iv (1 : Int32), rv b104, .unset] [(.ref b112)] _
      refine XS.astore X112.here hx rfl (hb hby at_99) rfl rfl (l' := #[iv p1, iv p2, iv p3, iv p4, iv (2 : Int32), rv b84, rv b90, iv (1 : Int32), rv b104, rv b112]) rfl ?_
      show own_S p e below T112 m 101 #[iv p1, iv p2, iv p3, iv p4, iv (2 : Int32), rv b84, rv b90, iv (1 : Int32), rv b104, rv b112] [] _
      refine XS.iload X112.here hx rfl (hb hby at_101) rfl ?_
      show own_S p e below T112 m 103 #[iv p1, iv p2, iv p3, iv p4, iv (2 : Int32), rv b84, rv b90, iv (1 : Int32), rv b104, rv b112] [(.int (1 : Int32))] _
      refine XS.ifNo X112.here hx rfl (hb hby at_103) rfl ((if0 _ _).trans (feq (by decide : ¬ ((1 : Int32) = (0 : Int32)))).1) ?_
      show own_S p e below T112 m 106 #[iv p1, iv p2, iv p3, iv p4, iv (2 : Int32), rv b84, rv b90, iv (1 : Int32), rv b104, rv b112] [] _
      refine XS.aload X112.here hx rfl (hb hby at_106) rfl rfl ?_
      show own_S p e below T112 m 108 #[iv p1, iv p2, iv p3, iv p4, iv (2 : Int32), rv b84, rv b90, iv (1 : Int32), rv b104, rv b112] [(.ref b104)] _
      refine st113.trans ?_
      show own_S p e below T113 m 111 #[iv p1, iv p2, iv p3, iv p4, iv (2 : Int32), rv b84, rv b90, iv (1 : Int32), rv b104, rv b112] [(.int (0 : Int32))] _
      refine XS.iload X113.here hx rfl (hb hby at_111) rfl ?_
      show own_S p e below T113 m 113 #[iv p1, iv p2, iv p3, iv p4, iv (2 : Int32), rv b84, rv b90, iv (1 : Int32), rv b104, rv b112] [(.int (2 : Int32)), (.int (0 : Int32))] _
      refine XS.iconst X113.here hx rfl (hb hby at_113) ?_
      show own_S p e below T113 m 114 #[iv p1, iv p2, iv p3, iv p4, iv (2 : Int32), rv b84, rv b90, iv (1 : Int32), rv b104, rv b112] [(.int (3 : Int32)), (.int (2 : Int32)), (.int (0 : Int32))] _
      refine XS.icmpYes X113.here hx rfl (pc0 := 114) (pc' := 121) rfl (hb hby at_114) rfl (feq (by decide : ¬ ((2 : Int32) = (3 : Int32)))).2 (by decide) (by decide) ?_
      show own_S p e below T113 m 121 #[iv p1, iv p2, iv p3, iv p4, iv (2 : Int32), rv b84, rv b90, iv (1 : Int32), rv b104, rv b112] [(.int (0 : Int32))] _
      refine XS.iconst X113.here hx rfl (hb hby at_121) ?_
      show own_S p e below T113 m 122 #[iv p1, iv p2, iv p3, iv p4, iv (2 : Int32), rv b84, rv b90, iv (1 : Int32), rv b104, rv b112] [(.int (0 : Int32)), (.int (0 : Int32))] _
      refine XS.icmpNo X113.here hx rfl (hb hby at_122) rfl (teq (by decide : (0 : Int32) = (0 : Int32))).2 ?_
      show own_S p e below T113 m 125 #[iv p1, iv p2, iv p3, iv p4, iv (2 : Int32), rv b84, rv b90, iv (1 : Int32), rv b104, rv b112] [] _
      refine XS.aload X113.here hx rfl (hb hby at_125) rfl rfl ?_
      show own_S p e below T113 m 127 #[iv p1, iv p2, iv p3, iv p4, iv (2 : Int32), rv b84, rv b90, iv (1 : Int32), rv b104, rv b112] [(.ref b112)] _
      refine st115.trans ?_
      show own_S p e below T115 m 130 #[iv p1, iv p2, iv p3, iv p4, iv (2 : Int32), rv b84, rv b90, iv (1 : Int32), rv b104, rv b112] [(.int (0 : Int32))] _
      refine XS.iload X115.here hx rfl (hb hby at_130) rfl ?_
      show own_S p e below T115 m 132 #[iv p1, iv p2, iv p3, iv p4, iv (2 : Int32), rv b84, rv b90, iv (1 : Int32), rv b104, rv b112] [(.int (2 : Int32)), (.int (0 : Int32))] _
      refine XS.ifYes X115.here hx rfl (pc0 := 132) (pc' := 139) rfl (hb hby at_132) rfl ((if0 _ _).trans (feq (by decide : ¬ ((2 : Int32) = (0 : Int32)))).2) (by decide) (by decide) ?_
      show own_S p e below T115 m 139 #[iv p1, iv p2, iv p3, iv p4, iv (2 : Int32), rv b84, rv b90, iv (1 : Int32), rv b104, rv b112] [(.int (0 : Int32))] _
      refine XS.iconst X115.here hx rfl (hb hby at_139) ?_
      show own_S p e below T115 m 140 #[iv p1, iv p2, iv p3, iv p4, iv (2 : Int32), rv b84, rv b90, iv (1 : Int32), rv b104, rv b112] [(.int (0 : Int32)), (.int (0 : Int32))] _
      refine XS.icmpNo X115.here hx rfl (hb hby at_140) rfl (teq (by decide : (0 : Int32) = (0 : Int32))).2 ?_
      show own_S p e below T115 m 143 #[iv p1, iv p2, iv p3, iv p4, iv (2 : Int32), rv b84, rv b90, iv (1 : Int32), rv b104, rv b112] [] _
      refine XS.iconst X115.here hx rfl (hb hby at_143) ?_
      show own_S p e below T115 m 144 #[iv p1, iv p2, iv p3, iv p4, iv (2 : Int32), rv b84, rv b90, iv (1 : Int32), rv b104, rv b112] [(.int (1 : Int32))] _
      refine XS.goto X115.here hx rfl (pc0 := 144) (pc' := 148) rfl (hb hby at_144) (by decide) (by decide) ?_
      show own_S p e below T115 m 148 #[iv p1, iv p2, iv p3, iv p4, iv (2 : Int32), rv b84, rv b90, iv (1 : Int32), rv b104, rv b112] [(.int (1 : Int32))] _
      refine XS.istore X115.here hx rfl (hb hby at_148) rfl (l' := #[iv p1, iv p2, iv p3, iv p4, iv (2 : Int32), rv b84, rv b90, iv (1 : Int32), rv b104, rv b112]) rfl ?_
      show own_S p e below T115 m 150 #[iv p1, iv p2, iv p3, iv p4, iv (2 : Int32), rv b84, rv b90, iv (1 : Int32), rv b104, rv b112] [] _
      refine XS.iload X115.here hx rfl (hb hby at_150) rfl ?_
      show own_S p e below T115 m 152 #[iv p1, iv p2, iv p3, iv p4, iv (2 : Int32), rv b84, rv b90, iv (1 : Int32), rv b104, rv b112] [(.int (2 : Int32))] _
      refine XS.iconst X115.here hx rfl (hb hby at_152) ?_
      show own_S p e below T115 m 153 #[iv p1, iv p2, iv p3, iv p4, iv (2 : Int32), rv b84, rv b90, iv (1 : Int32), rv b104, rv b112] [(.int (1 : Int32)), (.int (2 : Int32))] _
      refine XS.icmpNo X115.here hx rfl (hb hby at_153) rfl (flt (by decide : ¬ ((2 : Int32) < (1 : Int32)))).1 ?_
      show own_S p e below T115 m 156 #[iv p1, iv p2, iv p3, iv p4, iv (2 : Int32), rv b84, rv b90, iv (1 : Int32), rv b104, rv b112] [] _
      refine XS.aload X115.here hx rfl (hb hby at_156) rfl rfl ?_
      show own_S p e below T115 m 158 #[iv p1, iv p2, iv p3, iv p4, iv (2 : Int32), rv b84, rv b90, iv (1 : Int32), rv b104, rv b112] [(.ref b112)] _
      refine st117.trans ?_
      show own_S p e below T117 m 161 #[iv p1, iv p2, iv p3, iv p4, iv (2 : Int32), rv b84, rv b90, iv (1 : Int32), rv b104, rv b112] [(.long (own_val (nar .byte ((p2 &&& (127 : Int32)).toInt8.toInt32))))] _
      jvm_step X117.here [X117.here.top, hx, (hb hby at_161), Value.category]
      show own_S p e below T117 m 162 #[iv p1, iv p2, iv p3, iv p4, iv (2 : Int32), rv b84, rv b90, iv (1 : Int32), rv b104, rv b112] [] _
      refine XS.iload X117.here hx rfl (hb hby at_162) rfl ?_
      show own_S p e below T117 m 164 #[iv p1, iv p2, iv p3, iv p4, iv (2 : Int32), rv b84, rv b90, iv (1 : Int32), rv b104, rv b112] [(.int (1 : Int32))] _
      refine XS.ifNo X117.here hx rfl (hb hby at_164) rfl ((if0 _ _).trans (feq (by decide : ¬ ((1 : Int32) = (0 : Int32)))).1) ?_
      show own_S p e below T117 m 167 #[iv p1, iv p2, iv p3, iv p4, iv (2 : Int32), rv b84, rv b90, iv (1 : Int32), rv b104, rv b112] [] _
      refine XS.aload X117.here hx rfl (hb hby at_167) rfl rfl ?_
      show own_S p e below T117 m 169 #[iv p1, iv p2, iv p3, iv p4, iv (2 : Int32), rv b84, rv b90, iv (1 : Int32), rv b104, rv b112] [(.ref b112)] _
      refine st118.trans ?_
      show own_S p e below T118 m 172 #[iv p1, iv p2, iv p3, iv p4, iv (2 : Int32), rv b84, rv b90, iv (1 : Int32), rv b104, rv b112] [(.int (0 : Int32))] _
      refine XS.iload X118.here hx rfl (hb hby at_172) rfl ?_
      show own_S p e below T118 m 174 #[iv p1, iv p2, iv p3, iv p4, iv (2 : Int32), rv b84, rv b90, iv (1 : Int32), rv b104, rv b112] [(.int (2 : Int32)), (.int (0 : Int32))] _
      refine XS.iconst X118.here hx rfl (hb hby at_174) ?_
      show own_S p e below T118 m 175 #[iv p1, iv p2, iv p3, iv p4, iv (2 : Int32), rv b84, rv b90, iv (1 : Int32), rv b104, rv b112] [(.int (1 : Int32)), (.int (2 : Int32)), (.int (0 : Int32))] _
      refine XS.icmpYes X118.here hx rfl (pc0 := 175) (pc' := 182) rfl (hb hby at_175) rfl (feq (by decide : ¬ ((2 : Int32) = (1 : Int32)))).2 (by decide) (by decide) ?_
      show own_S p e below T118 m 182 #[iv p1, iv p2, iv p3, iv p4, iv (2 : Int32), rv b84, rv b90, iv (1 : Int32), rv b104, rv b112] [(.int (0 : Int32))] _
      refine XS.iconst X118.here hx rfl (hb hby at_182) ?_
      show own_S p e below T118 m 183 #[iv p1, iv p2, iv p3, iv p4, iv (2 : Int32), rv b84, rv b90, iv (1 : Int32), rv b104, rv b112] [(.int (0 : Int32)), (.int (0 : Int32))] _
      refine XS.icmpNo X118.here hx rfl (hb hby at_183) rfl (teq (by decide : (0 : Int32) = (0 : Int32))).2 ?_
      show own_S p e below T118 m 186 #[iv p1, iv p2, iv p3, iv p4, iv (2 : Int32), rv b84, rv b90, iv (1 : Int32), rv b104, rv b112] [] _
      refine XS.iconst X118.here hx rfl (hb hby at_186) ?_
      show own_S p e below T118 m 187 #[iv p1, iv p2, iv p3, iv p4, iv (2 : Int32), rv b84, rv b90, iv (1 : Int32), rv b104, rv b112] [(.int (1 : Int32))] _
      refine XS.goto X118.here hx rfl (pc0 := 187) (pc' := 191) rfl (hb hby at_187) (by decide) (by decide) ?_
      show own_S p e below T118 m 191 #[iv p1, iv p2, iv p3, iv p4, iv (2 : Int32), rv b84, rv b90, iv (1 : Int32), rv b104, rv b112] [(.int (1 : Int32))] _
      refine XS.istore X118.here hx rfl (hb hby at_191) rfl (l' := #[iv p1, iv p2, iv p3, iv p4, iv (2 : Int32), rv b84, rv b90, iv (1 : Int32), rv b104, rv b112]) rfl ?_
      show own_S p e below T118 m 193 #[iv p1, iv p2, iv p3, iv p4, iv (2 : Int32), rv b84, rv b90, iv (1 : Int32), rv b104, rv b112] [] _
      refine XS.iload X118.here hx rfl (hb hby at_193) rfl ?_
      show own_S p e below T118 m 195 #[iv p1, iv p2, iv p3, iv p4, iv (2 : Int32), rv b84, rv b90, iv (1 : Int32), rv b104, rv b112] [(.int (2 : Int32))] _
      refine XS.iconst X118.here hx rfl (hb hby at_195) ?_
      show own_S p e below T118 m 196 #[iv p1, iv p2, iv p3, iv p4, iv (2 : Int32), rv b84, rv b90, iv (1 : Int32), rv b104, rv b112] [(.int (2 : Int32)), (.int (2 : Int32))] _
      refine XS.icmpNo X118.here hx rfl (hb hby at_196) rfl (flt (by decide : ¬ ((2 : Int32) < (2 : Int32)))).2.2.1 ?_
      show own_S p e below T118 m 199 #[iv p1, iv p2, iv p3, iv p4, iv (2 : Int32), rv b84, rv b90, iv (1 : Int32), rv b104, rv b112] [] _
      refine XS.aload X118.here hx rfl (hb hby at_199) rfl rfl ?_
      show own_S p e below T118 m 201 #[iv p1, iv p2, iv p3, iv p4, iv (2 : Int32), rv b84, rv b90, iv (1 : Int32), rv b104, rv b112] [(.ref b104)] _
      refine st125.trans ?_
      show own_S p e below T125 m 204 #[iv p1, iv p2, iv p3, iv p4, iv (2 : Int32), rv b84, rv b90, iv (1 : Int32), rv b104, rv b112] [(.long (own_val (nar .byte ((p4 &&& (127 : Int32)).toInt8.toInt32))))] _
      jvm_step X125.here [X125.here.top, hx, (hb hby at_204), Value.category]
      show own_S p e below T125 m 205 #[iv p1, iv p2, iv p3, iv p4, iv (2 : Int32), rv b84, rv b90, iv (1 : Int32), rv b104, rv b112] [] _
      refine XS.iload X125.here hx rfl (hb hby at_205) rfl ?_
      show own_S p e below T125 m 207 #[iv p1, iv p2, iv p3, iv p4, iv (2 : Int32), rv b84, rv b90, iv (1 : Int32), rv b104, rv b112] [(.int (1 : Int32))] _
      refine XS.ifNo X125.here hx rfl (hb hby at_207) rfl ((if0 _ _).trans (feq (by decide : ¬ ((1 : Int32) = (0 : Int32)))).1) ?_
      show own_S p e below T125 m 210 #[iv p1, iv p2, iv p3, iv p4, iv (2 : Int32), rv b84, rv b90, iv (1 : Int32), rv b104, rv b112] [] _
      refine XS.aload X125.here hx rfl (hb hby at_210) rfl rfl ?_
      show own_S p e below T125 m 212 #[iv p1, iv p2, iv p3, iv p4, iv (2 : Int32), rv b84, rv b90, iv (1 : Int32), rv b104, rv b112] [(.ref b104)] _
      refine st126.trans ?_
      show own_S p e below T126 m 215 #[iv p1, iv p2, iv p3, iv p4, iv (2 : Int32), rv b84, rv b90, iv (1 : Int32), rv b104, rv b112] [(.int (1 : Int32))] _
      refine XS.iload X126.here hx rfl (hb hby at_215) rfl ?_
      show own_S p e below T126 m 217 #[iv p1, iv p2, iv p3, iv p4, iv (2 : Int32), rv b84, rv b90, iv (1 : Int32), rv b104, rv b112] [(.int (2 : Int32)), (.int (1 : Int32))] _
      refine XS.iconst X126.here hx rfl (hb hby at_217) ?_
      show own_S p e below T126 m 218 #[iv p1, iv p2, iv p3, iv p4, iv (2 : Int32), rv b84, rv b90, iv (1 : Int32), rv b104, rv b112] [(.int (2 : Int32)), (.int (2 : Int32)), (.int (1 : Int32))] _
      refine XS.icmpNo X126.here hx rfl (hb hby at_218) rfl (teq (by decide : (2 : Int32) = (2 : Int32))).2 ?_
      show own_S p e below T126 m 221 #[iv p1, iv p2, iv p3, iv p4, iv (2 : Int32), rv b84, rv b90, iv (1 : Int32), rv b104, rv b112] [(.int (1 : Int32))] _
      refine XS.iconst X126.here hx rfl (hb hby at_221) ?_
      show own_S p e below T126 m 222 #[iv p1, iv p2, iv p3, iv p4, iv (2 : Int32), rv b84, rv b90, iv (1 : Int32), rv b104, rv b112] [(.int (1 : Int32)), (.int (1 : Int32))] _
      refine XS.goto X126.here hx rfl (pc0 := 222) (pc' := 226) rfl (hb hby at_222) (by decide) (by decide) ?_
      show own_S p e below T126 m 226 #[iv p1, iv p2, iv p3, iv p4, iv (2 : Int32), rv b84, rv b90, iv (1 : Int32), rv b104, rv b112] [(.int (1 : Int32)), (.int (1 : Int32))] _
      refine XS.icmpNo X126.here hx rfl (hb hby at_226) rfl (teq (by decide : (1 : Int32) = (1 : Int32))).2 ?_
      show own_S p e below T126 m 229 #[iv p1, iv p2, iv p3, iv p4, iv (2 : Int32), rv b84, rv b90, iv (1 : Int32), rv b104, rv b112] [] _
      refine XS.iconst X126.here hx rfl (hb hby at_229) ?_
      show own_S p e below T126 m 230 #[iv p1, iv p2, iv p3, iv p4, iv (2 : Int32), rv b84, rv b90, iv (1 : Int32), rv b104, rv b112] [(.int (1 : Int32))] _
      refine XS.goto X126.here hx rfl (pc0 := 230) (pc' := 234) rfl (hb hby at_230) (by decide) (by decide) ?_
      show own_S p e below T126 m 234 #[iv p1, iv p2, iv p3, iv p4, iv (2 : Int32), rv b84, rv b90, iv (1 : Int32), rv b104, rv b112] [(.int (1 : Int32))] _
      refine XS.istore X126.here hx rfl (hb hby at_234) rfl (l' := #[iv p1, iv p2, iv p3, iv p4, iv (2 : Int32), rv b84, rv b90, iv (1 : Int32), rv b104, rv b112]) rfl ?_
      show own_S p e below T126 m 236 #[iv p1, iv p2, iv p3, iv p4, iv (2 : Int32), rv b84, rv b90, iv (1 : Int32), rv b104, rv b112] [] _
      refine XS.iload X126.here hx rfl (hb hby at_236) rfl ?_
      exact k)
    obtain ⟨fs, hr, hrun, hended, hW, hsame⟩ := X126.leave (v := some (.int (nar .boolean (1 : Int32)))) (fun h => by rw [Bd.returns] at h; cases h)
    refine ⟨_, _, pre128 _ ?_, hrun, hended, _, _, rfl, ?_, ⟨_, rfl⟩, hW, hsame.mono (by decide) (by decide)⟩
    · show own_S p e below T126 m 238 #[iv p1, iv p2, iv p3, iv p4, iv (2 : Int32), rv b84, rv b90, iv (1 : Int32), rv b104, rv b112] [(.int (1 : Int32))] _
      exact retN X126 hx (t := .boolean) Bd.returns (by simp) (hb hby at_238) hr
    · show Q0 Z p1 p2 p3 p4 h0 n0 _ T126.heap _
      rw [e126]
      exact ⟨rfl, N126⟩
  ·  -- case
    obtain ⟨T129, h129, k129, X129, e129, E129, A129, st129⟩ := newP X0 hx hZ (hw _ (List.mem_of_getElem? (i := 0) rfl)) e0 (g := (mkF m 6 #[iv p1, iv p2, iv p3, iv p4, iv (3 : Int32), .unset, .unset, .unset, .unset, .unset] [(.int (4 : Int32))])) rfl (hb hby at_6) rfl (by decide) (cap := 4) (by decide) (by decide) (by decide) (by decide)
    obtain ⟨b129, g129⟩ : ∃ z, z = h0.size := ⟨_, rfl⟩
    rw [← g129] at A129 st129
    have g_b129 : n0 ≤ b129 := Nat.le_trans Z0 (Nat.le_of_eq g129.symm)
    have sz_b129 : h0.size ≤ b129 := Nat.le_trans ((Keep.refl h0 [])).1 (Nat.le_of_eq g129.symm)
    have V_b129 : Arv Z h129 b129 k129 .byte (4 : Int32) [(.int (0 : Int32)), (.int (0 : Int32)), (.int (0 : Int32)), (.int (0 : Int32))] (.int (0 : Int32)) := (Arv.new A129 (by decide)).pad (pad_rep [] (.int (0 : Int32)) 4)
    obtain ⟨cl130, Ar130, q130, S130, M130, H130, G130⟩ := id V_b129
    have hin130 : ¬ ((0 : Int32) < 0 ∨ cl130.slots.size ≤ ((0 : Int32)).toNatClampNeg) := inb_of S130 ⟨by decide, by decide⟩
    obtain ⟨T130, h130, X130, e130, W130, st130⟩ := stB X129 hx hZ e129 Ar130 (j := (0 : Int32)) hin130 (g := (mkF m 16 #[iv p1, iv p2, iv p3, iv p4, iv (3 : Int32), rv b129, .unset, .unset, .unset, .unset] [(.int ((3 : Int32).toInt8.toInt32)), (.int (0 : Int32)), (.ref b129)])) rfl rfl (hb hby at_16)
    have V130 : Arv Z h130 b129 k129 .byte (4 : Int32) [(.int (nar .byte ((3 : Int32).toInt8.toInt32))), (.int (0 : Int32)), (.int (0 : Int32)), (.int (0 : Int32))] (.int (0 : Int32)) := Arv.set Ar130 q130 S130 M130 H130 G130 (fits_nar_byte _) W130 0 rfl (Nat.le_of_ble_eq_true rfl)
    have N130 := Fr.snoc X130 N0 g_b129
    obtain ⟨cl131, Ar131, q131, S131, M131, H131, G131⟩ := id V130
    have hin131 : ¬ ((1 : Int32) < 0 ∨ cl131.slots.size ≤ ((1 : Int32)).toNatClampNeg) := inb_of S131 ⟨by decide, by decide⟩
    obtain ⟨T131, h131, X131, e131, W131, st131⟩ := stB X130 hx hZ e130 Ar131 (j := (1 : Int32)) hin131 (g := (mkF m 25 #[iv p1, iv p2, iv p3, iv p4, iv (3 : Int32), rv b129, .unset, .unset, .unset, .unset] [(.int ((p2 &&& (127 : Int32)).toInt8.toInt32)), (.int (1 : Int32)), (.ref b129)])) rfl rfl (hb hby at_25)
    have V131 : Arv Z h131 b129 k129 .byte (4 : Int32) [(.int (nar .byte ((3 : Int32).toInt8.toInt32))), (.int (nar .byte ((p2 &&& (127 : Int32)).toInt8.toInt32))), (.int (0 : Int32)), (.int (0 : Int32))] (.int (0 : Int32)) := Arv.set Ar131 q131 S131 M131 H131 G131 (fits_nar_byte _) W131 1 rfl (Nat.le_of_ble_eq_true rfl)
    have N131 := Fr.snoc X131 N130 g_b129
    obtain ⟨cl132, Ar132, q132, S132, M132, H132, G132⟩ := id V131
    have hin132 : ¬ ((2 : Int32) < 0 ∨ cl132.slots.size ≤ ((2 : Int32)).toNatClampNeg) := inb_of S132 ⟨by decide, by decide⟩
    obtain ⟨T132, h132, X132, e132, W132, st132⟩ := stB X131 hx hZ e131 Ar132 (j := (2 : Int32)) hin132 (g := (mkF m 34 #[iv p1, iv p2, iv p3, iv p4, iv (3 : Int32), rv b129, .unset, .unset, .unset, .unset] [(.int ((p3 &&& (127 : Int32)).toInt8.toInt32)), (.int (2 : Int32)), (.ref b129)])) rfl rfl (hb hby at_34)
    have V132 : Arv Z h132 b129 k129 .byte (4 : Int32) [(.int (nar .byte ((3 : Int32).toInt8.toInt32))), (.int (nar .byte ((p2 &&& (127 : Int32)).toInt8.toInt32))), (.int (nar .byte ((p3 &&& (127 : Int32)).toInt8.toInt32))), (.int (0 : Int32))] (.int (0 : Int32)) := Arv.set Ar132 q132 S132 M132 H132 G132 (fits_nar_byte _) W132 2 rfl (Nat.le_of_ble_eq_true rfl)
    have N132 := Fr.snoc X132 N131 g_b129
    obtain ⟨cl133, Ar133, q133, S133, M133, H133, G133⟩ := id V132
    have hin133 : ¬ ((3 : Int32) < 0 ∨ cl133.slots.size ≤ ((3 : Int32)).toNatClampNeg) := inb_of S133 ⟨by decide, by decide⟩
    obtain ⟨T133, h133, X133, e133, W133, st133⟩ := stB X132 hx hZ e132 Ar133 (j := (3 : Int32)) hin133 (g := (mkF m 43 #[iv p1, iv p2, iv p3, iv p4, iv (3 : Int32), rv b129, .unset, .unset, .unset, .unset] [(.int ((p4 &&& (127 : Int32)).toInt8.toInt32)), (.int (3 : Int32)), (.ref b129)])) rfl rfl (hb hby at_43)
    have V133 : Arv Z h133 b129 k129 .byte (4 : Int32) [(.int (nar .byte ((3 : Int32).toInt8.toInt32))), (.int (nar .byte ((p2 &&& (127 : Int32)).toInt8.toInt32))), (.int (nar .byte ((p3 &&& (127 : Int32)).toInt8.toInt32))), (.int (nar .byte ((p4 &&& (127 : Int32)).toInt8.toInt32)))] (.int (0 : Int32)) := Arv.set Ar133 q133 S133 M133 H133 G133 (fits_nar_byte _) W133 3 rfl (Nat.le_of_ble_eq_true rfl)
    have N133 := Fr.snoc X133 N132 g_b129
    have Zs134 : n0 ≤ h133.size := (Nat.le_trans (Nat.le_trans (Nat.le_trans (Nat.le_trans (Nat.le_trans Z0 E129.1) (Keep.of_wr W130).1) (Keep.of_wr W131).1) (Keep.of_wr W132).1) (Keep.of_wr W133).1)
    obtain ⟨T135, h135, X135, e135, E135, A135, D135, -, st135⟩ := newO X133 hx hZ hown (hw _ (List.mem_of_getElem? (i := 1) rfl)) (hw _ (List.mem_of_getElem? (i := 2) rfl)) (hw _ (List.mem_of_getElem? (i := 3) rfl)) e133 (g := (mkF m 44 #[iv p1, iv p2, iv p3, iv p4, iv (3 : Int32), rv b129, .unset, .unset, .unset, .unset] [])) rfl (hb hby at_44) (by decide) (by decide)
    obtain ⟨b135, g135⟩ : ∃ z, z = h133.size := ⟨_, rfl⟩
    rw [← g135] at A135 D135 st135
    have g_b135 : n0 ≤ b135 := Nat.le_trans Zs134 (Nat.le_of_eq g135.symm)
    have sz_b135 : h0.size ≤ b135 := Nat.le_trans (((((((Keep.refl h0 []).ext E129).wr W130 (Or.inr sz_b129)).wr W131 (Or.inr sz_b129)).wr W132 (Or.inr sz_b129)).wr W133 (Or.inr sz_b129))).1 (Nat.le_of_eq g135.symm)
    have ne_b129_b135 : b129 ≠ b135 := Nat.ne_of_lt (Nat.lt_of_lt_of_le V133.lt (Nat.le_of_eq g135.symm))
    have F__bytes_b135 : Fld Z h135 b135 "com/example/converge/converge/runtime/WireReader" "_bytes" "[B" .null := D135 (Or.inr (hw _ (List.mem_of_getElem? (i := 14) rfl))) (ty := (.array .byte)) (by decide)
    have F__position_b135 : Fld Z h135 b135 "com/example/converge/converge/runtime/WireReader" "_position" "I" (.int (0 : Int32)) := D135 (Or.inl (hw _ (List.mem_of_getElem? (i := 16) rfl))) (ty := .int) (by decide)
    have F__end_b135 : Fld Z h135 b135 "com/example/converge/converge/runtime/WireReader" "_end" "I" (.int (0 : Int32)) := D135 (Or.inr (hw _ (List.mem_of_getElem? (i := 18) rfl))) (ty := .int) (by decide)
    have Zs136 : n0 ≤ h135.size := (Nat.le_trans Zs134 E135.1)
    have Vn_137 := (V133.ext E135)
    obtain ⟨T138, h138, k138, X138, e138, E138, A138, st138⟩ := newP X135 hx hZ (hw _ (List.mem_of_getElem? (i := 0) rfl)) e135 (g := (mkF m 49 #[iv p1, iv p2, iv p3, iv p4, iv (3 : Int32), rv b129, .unset, .unset, .unset, .unset] [(.int (0 : Int32)), (.ref b135), (.ref b135)])) rfl (hb hby at_49) rfl (by decide) (cap := 0) (by decide) (by decide) (by decide) (by decide)
    obtain ⟨b138, g138⟩ : ∃ z, z = h135.size := ⟨_, rfl⟩
    rw [← g138] at A138 st138
    have g_b138 : n0 ≤ b138 := Nat.le_trans Zs136 (Nat.le_of_eq g138.symm)
    have sz_b138 : h0.size ≤ b138 := Nat.le_trans ((((((((Keep.refl h0 []).ext E129).wr W130 (Or.inr sz_b129)).wr W131 (Or.inr sz_b129)).wr W132 (Or.inr sz_b129)).wr W133 (Or.inr sz_b129)).ext E135)).1 (Nat.le_of_eq g138.symm)
    have ne_b129_b138 : b129 ≠ b138 := Nat.ne_of_lt (Nat.lt_of_lt_of_le Vn_137.lt (Nat.le_of_eq g138.symm))
    have ne_b135_b138 : b135 ≠ b138 := Nat.ne_of_lt (Nat.lt_of_lt_of_le F__end_b135.lt (Nat.le_of_eq g138.symm))
    have V_b138 : Arv Z h138 b138 k138 .byte (0 : Int32) [] (.int (0 : Int32)) := (Arv.new A138 (by decide)).pad (pad_rep [] (.int (0 : Int32)) 0)
    have En_139 := (A135.ext E138)
    have Fn_140 := (F__bytes_b135.ext E138)
    have Fn_141 := (F__position_b135.ext E138)
    have Fn_142 := (F__end_b135.ext E138)
    have Zs144 : n0 ≤ h138.size := (Nat.le_trans Zs136 E138.1)
    obtain ⟨_, _, ⟨T143, L143, k143, n143⟩, -, X143, ⟨Lc143, hQ143, l143, y143, z143⟩, st143⟩ := X138.specialBack hx (y := (⟨"com/example/converge/converge/runtime/WireReader", "<init>", "([B)V"⟩ : MethodName)) rfl hown (mvT hZ (hw _ (List.mem_of_getElem? (i := 4) rfl))) (mvT hZ (hw _ (List.mem_of_getElem? (i := 5) rfl))) (mvT hZ (hw _ (List.mem_of_getElem? (i := 6) rfl))) (by decide) (backOf (W := 1) (rm1 l Z a0 hw [] b135 b138 k138 (0 : Int32) [] h138 n0 Zs144 En_139 g_b135 Fn_140 Fn_141 Fn_142 V_b138) hZ (hw _ (List.mem_of_getElem? (i := 6) rfl)) (hw _ (List.mem_of_getElem? (i := 3) rfl)) (by decide) (by decide)) (g := (mkF m 51 #[iv p1, iv p2, iv p3, iv p4, iv (3 : Int32), rv b129, .unset, .unset, .unset, .unset] [(.ref b138), (.ref b135), (.ref b135)])) rfl (by rw [hml]; rfl) (Steps.refl _) (a := b135) (argsL := [(.ref b138)]) (rest := [(.ref b135)]) (lenOf pd_3 rfl) rfl (by show 2 * 0 + _ ≤ _; exact Nat.le_of_eq rfl) (hb hby at_51) (fun _ _ => ⟨rfl, e138, (by decide : 3 + 0 ≤ _), (by decide : 7 + 0 ≤ _)⟩)
    dsimp only [Pt.U, Pt.locs, Pt.cells, Pt.slots] at X143 l143 y143 z143 st143 hQ143
    subst l143 y143 z143
    obtain ⟨rfl, N143q, K143, E143c, Fb143, Fp143, Fe143⟩ := hQ143
    have N143 := Fr.app N133 N143q
    have Zs146 : n0 ≤ T143.heap.size := (Nat.le_trans Zs144 K143.1)
    obtain ⟨cq145, kq145, q145a, q145b, q145c⟩ := isOf hZ rfl E143c
    obtain ⟨_, _, ⟨T145, L145, k145, n145⟩, -, X145, ⟨Lc145, hQ145, l145, y145, z145⟩, st145⟩ := X143.virtualBack hx (y := (⟨"com/example/converge/converge/runtime/WireReader", "isAtEnd", "()Z"⟩ : MethodName)) (z := (⟨"com/example/converge/converge/runtime/WireReader", "isAtEnd", "()Z"⟩ : MethodName)) hown (mvT hZ (hw _ (List.mem_of_getElem? (i := 19) rfl))) (mvT hZ (hw _ (List.mem_of_getElem? (i := 20) rfl))) (notFace_of_selects (args := #[]) (mvT hZ (hw _ (List.mem_of_getElem? (i := 22) rfl)))) (mvT hZ (hw _ (List.mem_of_getElem? (i := 22) rfl))) (mvT hZ (hw _ (List.mem_of_getElem? (i := 21) rfl))) (by decide) (backOf (W := 0) (rm4 l Z a0 hw [] b135 (0 : Int32) (0 : Int32) T143.heap n0 Zs146 Fp143 Fe143) hZ (hw _ (List.mem_of_getElem? (i := 23) rfl)) (hw _ (List.mem_of_getElem? (i := 3) rfl)) (by decide) (by decide)) q145a q145c (g := (mkF m 58 #[iv p1, iv p2, iv p3, iv p4, iv (3 : Int32), rv b129, rv b135, .unset, .unset, .unset] [(.ref b135)])) rfl (by rw [hml]; rfl) (Steps.refl _) (argsL := []) (rest := []) (lenOf pd_4 rfl) rfl (by show 2 * 0 + _ ≤ _; exact Nat.le_of_eq rfl) (hb hby at_58) (fun _ _ => ⟨rfl, rfl, (by decide : 3 + 0 ≤ _), (by decide : 7 + 0 ≤ _)⟩)
    dsimp only [Pt.U, Pt.locs, Pt.cells, Pt.slots] at X145 l145 y145 z145 st145 hQ145
    subst l145 y145 z145
    obtain ⟨hv145, N145q, e145q⟩ := hQ145
    have N145 := Fr.app N143 N145q
    rw [show own_end (0 : Int32) (0 : Int32) = (1 : Int32) from by decide] at hv145
    subst hv145
    have e145 : T145.heap = T143.heap := e145q
    have Vn_147 := ((Vn_137.ext E138).keep K143 (ninS ne_b129_b135 nin0))
    have Vn_148 := (V_b138.keep K143 (ninS (Ne.symm ne_b135_b138) nin0))
    obtain ⟨T149, h149, X149, e149, E149, A149, D149, -, st149⟩ := newO X145 hx hZ hown (hw _ (List.mem_of_getElem? (i := 1) rfl)) (hw _ (List.mem_of_getElem? (i := 2) rfl)) (hw _ (List.mem_of_getElem? (i := 3) rfl)) e145 (g := (mkF m 63 #[iv p1, iv p2, iv p3, iv p4, iv (3 : Int32), rv b129, rv b135, iv (1 : Int32), .unset, .unset] [])) rfl (hb hby at_63) (by decide) (by decide)
    obtain ⟨b149, g149⟩ : ∃ z, z = T143.heap.size := ⟨_, rfl⟩
    rw [← g149] at A149 D149 st149
    have g_b149 : n0 ≤ b149 := Nat.le_trans Zs146 (Nat.le_of_eq g149.symm)
    have sz_b149 : h0.size ≤ b149 := Nat.le_trans ((((((((((Keep.refl h0 []).ext E129).wr W130 (Or.inr sz_b129)).wr W131 (Or.inr sz_b129)).wr W132 (Or.inr sz_b129)).wr W133 (Or.inr sz_b129)).ext E135).ext E138).trans K143 (allS (Or.inr sz_b135) all0))).1 (Nat.le_of_eq g149.symm)
    have ne_b129_b149 : b129 ≠ b149 := Nat.ne_of_lt (Nat.lt_of_lt_of_le Vn_147.lt (Nat.le_of_eq g149.symm))
    have ne_b135_b149 : b135 ≠ b149 := Nat.ne_of_lt (Nat.lt_of_lt_of_le Fe143.lt (Nat.le_of_eq g149.symm))
    have ne_b138_b149 : b138 ≠ b149 := Nat.ne_of_lt (Nat.lt_of_lt_of_le Vn_148.lt (Nat.le_of_eq g149.symm))
    have F__bytes_b149 : Fld Z h149 b149 "com/example/converge/converge/runtime/WireReader" "_bytes" "[B" .null := D149 (Or.inr (hw _ (List.mem_of_getElem? (i := 14) rfl))) (ty := (.array .byte)) (by decide)
    have F__position_b149 : Fld Z h149 b149 "com/example/converge/converge/runtime/WireReader" "_position" "I" (.int (0 : Int32)) := D149 (Or.inl (hw _ (List.mem_of_getElem? (i := 16) rfl))) (ty := .int) (by decide)
    have F__end_b149 : Fld Z h149 b149 "com/example/converge/converge/runtime/WireReader" "_end" "I" (.int (0 : Int32)) := D149 (Or.inr (hw _ (List.mem_of_getElem? (i := 18) rfl))) (ty := .int) (by decide)
    have Vn_150 := (Vn_147.ext E149)
    have Zs152 : n0 ≤ h149.size := (Nat.le_trans Zs146 E149.1)
    obtain ⟨_, _, ⟨T151, L151, k151, n151⟩, -, X151, ⟨Lc151, hQ151, l151, y151, z151⟩, st151⟩ := X149.specialBack hx (y := (⟨"com/example/converge/converge/runtime/WireReader", "<init>", "([B)V"⟩ : MethodName)) rfl hown (mvT hZ (hw _ (List.mem_of_getElem? (i := 4) rfl))) (mvT hZ (hw _ (List.mem_of_getElem? (i := 5) rfl))) (mvT hZ (hw _ (List.mem_of_getElem? (i := 6) rfl))) (by decide) (backOf (W := 1) (rm1 l Z a0 hw [] b149 b129 k129 (4 : Int32) [(.int (nar .byte ((3 : Int32).toInt8.toInt32))), (.int (nar .byte ((p2 &&& (127 : Int32)).toInt8.toInt32))), (.int (nar .byte ((p3 &&& (127 : Int32)).toInt8.toInt32))), (.int (nar .byte ((p4 &&& (127 : Int32)).toInt8.toInt32)))] h149 n0 Zs152 A149 g_b149 F__bytes_b149 F__position_b149 F__end_b149 Vn_150) hZ (hw _ (List.mem_of_getElem? (i := 6) rfl)) (hw _ (List.mem_of_getElem? (i := 3) rfl)) (by decide) (by decide)) (g := (mkF m 69 #[iv p1, iv p2, iv p3, iv p4, iv (3 : Int32), rv b129, rv b135, iv (1 : Int32), .unset, .unset] [(.ref b129), (.ref b149), (.ref b149)])) rfl (by rw [hml]; rfl) (Steps.refl _) (a := b149) (argsL := [(.ref b129)]) (rest := [(.ref b149)]) (lenOf pd_3 rfl) rfl (by show 2 * 0 + _ ≤ _; exact Nat.le_of_eq rfl) (hb hby at_69) (fun _ _ => ⟨rfl, e149, (by decide : 4 + 0 ≤ _), (by decide : 10 + 0 ≤ _)⟩)
    dsimp only [Pt.U, Pt.locs, Pt.cells, Pt.slots] at X151 l151 y151 z151 st151 hQ151
    subst l151 y151 z151
    obtain ⟨rfl, N151q, K151, E151c, Fb151, Fp151, Fe151⟩ := hQ151
    have N151 := Fr.app N145 N151q
    have Zs154 : n0 ≤ T151.heap.size := (Nat.le_trans Zs152 K151.1)
    obtain ⟨cq153, kq153, q153a, q153b, q153c⟩ := isOf hZ rfl E151c
    obtain ⟨_, _, ⟨T153, L153, k153, n153⟩, -, X153, ⟨Lc153, hQ153, l153, y153, z153⟩, st153⟩ := X151.virtualBack hx (y := (⟨"com/example/converge/converge/runtime/WireReader", "isAtEnd", "()Z"⟩ : MethodName)) (z := (⟨"com/example/converge/converge/runtime/WireReader", "isAtEnd", "()Z"⟩ : MethodName)) hown (mvT hZ (hw _ (List.mem_of_getElem? (i := 19) rfl))) (mvT hZ (hw _ (List.mem_of_getElem? (i := 20) rfl))) (notFace_of_selects (args := #[]) (mvT hZ (hw _ (List.mem_of_getElem? (i := 22) rfl)))) (mvT hZ (hw _ (List.mem_of_getElem? (i := 22) rfl))) (mvT hZ (hw _ (List.mem_of_getElem? (i := 21) rfl))) (by decide) (backOf (W := 0) (rm4 l Z a0 hw [] b149 (0 : Int32) (4 : Int32) T151.heap n0 Zs154 Fp151 Fe151) hZ (hw _ (List.mem_of_getElem? (i := 23) rfl)) (hw _ (List.mem_of_getElem? (i := 3) rfl)) (by decide) (by decide)) q153a q153c (g := (mkF m 81 #[iv p1, iv p2, iv p3, iv p4, iv (3 : Int32), rv b129, rv b135, iv (1 : Int32), rv b149, .unset] [(.ref b149)])) rfl (by rw [hml]; rfl) (Steps.refl _) (argsL := []) (rest := []) (lenOf pd_4 rfl) rfl (by show 2 * 0 + _ ≤ _; exact Nat.le_of_eq rfl) (hb hby at_81) (fun _ _ => ⟨rfl, rfl, (by decide : 4 + 0 ≤ _), (by decide : 10 + 0 ≤ _)⟩)
    dsimp only [Pt.U, Pt.locs, Pt.cells, Pt.slots] at X153 l153 y153 z153 st153 hQ153
    subst l153 y153 z153
    obtain ⟨hv153, N153q, e153q⟩ := hQ153
    have N153 := Fr.app N151 N153q
    rw [show own_end (0 : Int32) (4 : Int32) = (0 : Int32) from by decide] at hv153
    subst hv153
    have e153 : T153.heap = T151.heap := e153q
    have Vn_155 := (Vn_150.keep K151 (ninS ne_b129_b149 nin0))
    have En_156 := ((E143c.ext E149).keep K151)
    obtain ⟨cq157, kq157, q157a, q157b, q157c⟩ := isOf hZ e153 E151c
    obtain ⟨_, _, ⟨T157, L157, k157, n157⟩, -, X157, ⟨Lc157, hQ157, l157, y157, z157⟩, st157⟩ := X153.virtualBack hx (y := (⟨"com/example/converge/converge/runtime/WireReader", "readEmbedded", "()Lcom/example/converge/converge/runtime/WireReader;"⟩ : MethodName)) (z := (⟨"com/example/converge/converge/runtime/WireReader", "readEmbedded", "()Lcom/example/converge/converge/runtime/WireReader;"⟩ : MethodName)) hown (mvT hZ (hw _ (List.mem_of_getElem? (i := 24) rfl))) (mvT hZ (hw _ (List.mem_of_getElem? (i := 25) rfl))) (notFace_of_selects (args := #[]) (mvT hZ (hw _ (List.mem_of_getElem? (i := 27) rfl)))) (mvT hZ (hw _ (List.mem_of_getElem? (i := 27) rfl))) (mvT hZ (hw _ (List.mem_of_getElem? (i := 26) rfl))) (by decide) (backOf (W := 0) (rm5 l Z a0 hw [] b149 b129 (0 : Int32) (4 : Int32) k129 (4 : Int32) [(.int (nar .byte ((3 : Int32).toInt8.toInt32))), (.int (nar .byte ((p2 &&& (127 : Int32)).toInt8.toInt32))), (.int (nar .byte ((p3 &&& (127 : Int32)).toInt8.toInt32))), (.int (nar .byte ((p4 &&& (127 : Int32)).toInt8.toInt32)))] (nar .byte ((3 : Int32).toInt8.toInt32)) T151.heap n0 Zs154 E151c g_b149 Fb151 Fp151 Fe151 Vn_155 (by decide) ⟨by decide, by decide⟩ rfl (by decide +kernel) ne_b129_b149 (by decide +kernel) (by decide +kernel)) hZ (hw _ (List.mem_of_getElem? (i := 28) rfl)) (hw _ (List.mem_of_getElem? (i := 3) rfl)) (by decide) (by decide)) q157a q157c (g := (mkF m 96 #[iv p1, iv p2, iv p3, iv p4, iv (3 : Int32), rv b129, rv b135, iv (1 : Int32), rv b149, .unset] [(.ref b149)])) rfl (by rw [hml]; rfl) (Steps.refl _) (argsL := []) (rest := []) (lenOf pd_5 rfl) rfl (by show 2 * 0 + _ ≤ _; exact Nat.le_of_eq rfl) (hb hby at_96) (fun _ _ => ⟨rfl, e153, (by decide : 4 + 1 ≤ _), (by decide : 10 + 3 ≤ _)⟩)
    dsimp only [Pt.U, Pt.locs, Pt.cells, Pt.slots] at X157 l157 y157 z157 st157 hQ157
    subst l157 y157 z157
    obtain ⟨b157, rfl, N157q, K157, E157c, Fb157, Fp157, Fe157, g_b157, sz_b157, E157d, Gb157, Gp157, Ge157⟩ := hQ157
    have N157 := Fr.app N153 N157q
    rw [show (((0 : Int32) + (1 : Int32)) + (own_val (nar .byte ((3 : Int32).toInt8.toInt32))).toInt32) = (4 : Int32) from by decide +kernel] at Fp157 Ge157
    rw [show ((0 : Int32) + (1 : Int32)) = (1 : Int32) from by decide] at Gp157
    have ne_b149_b157 : b149 ≠ b157 := Nat.ne_of_lt (Nat.lt_of_lt_of_le E151c.lt sz_b157)
    have ne_b129_b157 : b129 ≠ b157 := Nat.ne_of_lt (Nat.lt_of_lt_of_le Vn_155.lt sz_b157)
    have ne_b135_b157 : b135 ≠ b157 := Nat.ne_of_lt (Nat.lt_of_lt_of_le En_156.lt sz_b157)
    have Zs159 : n0 ≤ T157.heap.size := (Nat.le_trans Zs154 K157.1)
    obtain ⟨cq158, kq158, q158a, q158b, q158c⟩ := isOf hZ rfl E157c
    obtain ⟨_, _, ⟨T158, L158, k158, n158⟩, -, X158, ⟨Lc158, hQ158, l158, y158, z158⟩, st158⟩ := X157.virtualBack hx (y := (⟨"com/example/converge/converge/runtime/WireReader", "isAtEnd", "()Z"⟩ : MethodName)) (z := (⟨"com/example/converge/converge/runtime/WireReader", "isAtEnd", "()Z"⟩ : MethodName)) hown (mvT hZ (hw _ (List.mem_of_getElem? (i := 19) rfl))) (mvT hZ (hw _ (List.mem_of_getElem? (i := 20) rfl))) (notFace_of_selects (args := #[]) (mvT hZ (hw _ (List.mem_of_getElem? (i := 22) rfl)))) (mvT hZ (hw _ (List.mem_of_getElem? (i := 22) rfl))) (mvT hZ (hw _ (List.mem_of_getElem? (i := 21) rfl))) (by decide) (backOf (W := 0) (rm4 l Z a0 hw [] b149 (4 : Int32) (4 : Int32) T157.heap n0 Zs159 Fp157 Fe157) hZ (hw _ (List.mem_of_getElem? (i := 23) rfl)) (hw _ (List.mem_of_getElem? (i := 3) rfl)) (by decide) (by decide)) q158a q158c (g := (mkF m 108 #[iv p1, iv p2, iv p3, iv p4, iv (3 : Int32), rv b129, rv b135, iv (1 : Int32), rv b149, rv b157] [(.ref b149)])) rfl (by rw [hml]; rfl) (Steps.refl _) (argsL := []) (rest := []) (lenOf pd_4 rfl) rfl (by show 2 * 0 + _ ≤ _; exact Nat.le_of_eq rfl) (hb hby at_108) (fun _ _ => ⟨rfl, rfl, (by decide : 5 + 0 ≤ _), (by decide : 13 + 0 ≤ _)⟩)
    dsimp only [Pt.U, Pt.locs, Pt.cells, Pt.slots] at X158 l158 y158 z158 st158 hQ158
    subst l158 y158 z158
    obtain ⟨hv158, N158q, e158q⟩ := hQ158
    have N158 := Fr.app N157 N158q
    rw [show own_end (4 : Int32) (4 : Int32) = (1 : Int32) from by decide] at hv158
    subst hv158
    have e158 : T158.heap = T157.heap := e158q
    obtain ⟨cq160, kq160, q160a, q160b, q160c⟩ := isOf hZ e158 E157d
    obtain ⟨_, _, ⟨T160, L160, k160, n160⟩, -, X160, ⟨Lc160, hQ160, l160, y160, z160⟩, st160⟩ := X158.virtualBack hx (y := (⟨"com/example/converge/converge/runtime/WireReader", "isAtEnd", "()Z"⟩ : MethodName)) (z := (⟨"com/example/converge/converge/runtime/WireReader", "isAtEnd", "()Z"⟩ : MethodName)) hown (mvT hZ (hw _ (List.mem_of_getElem? (i := 19) rfl))) (mvT hZ (hw _ (List.mem_of_getElem? (i := 20) rfl))) (notFace_of_selects (args := #[]) (mvT hZ (hw _ (List.mem_of_getElem? (i := 22) rfl)))) (mvT hZ (hw _ (List.mem_of_getElem? (i := 22) rfl))) (mvT hZ (hw _ (List.mem_of_getElem? (i := 21) rfl))) (by decide) (backOf (W := 0) (rm4 l Z a0 hw [] b157 (1 : Int32) (4 : Int32) T157.heap n0 Zs159 Gp157 Ge157) hZ (hw _ (List.mem_of_getElem? (i := 23) rfl)) (hw _ (List.mem_of_getElem? (i := 3) rfl)) (by decide) (by decide)) q160a q160c (g := (mkF m 127 #[iv p1, iv p2, iv p3, iv p4, iv (3 : Int32), rv b129, rv b135, iv (1 : Int32), rv b149, rv b157] [(.ref b157)])) rfl (by rw [hml]; rfl) (Steps.refl _) (argsL := []) (rest := []) (lenOf pd_4 rfl) rfl (by show 2 * 0 + _ ≤ _; exact Nat.le_of_eq rfl) (hb hby at_127) (fun _ _ => ⟨rfl, e158, (by decide : 5 + 0 ≤ _), (by decide : 13 + 0 ≤ _)⟩)
    dsimp only [Pt.U, Pt.locs, Pt.cells, Pt.slots] at X160 l160 y160 z160 st160 hQ160
    subst l160 y160 z160
    obtain ⟨hv160, N160q, e160q⟩ := hQ160
    have N160 := Fr.app N158 N160q
    rw [show own_end (1 : Int32) (4 : Int32) = (0 : Int32) from by decide] at hv160
    subst hv160
    have e160 : T160.heap = T157.heap := e160q
    have Vn_161 := (Vn_155.keep K157 (ninS ne_b129_b149 nin0))
    obtain ⟨cq162, kq162, q162a, q162b, q162c⟩ := isOf hZ e160 E157d
    obtain ⟨_, _, ⟨T162, L162, k162, n162⟩, -, X162, ⟨Lc162, hQ162, l162, y162, z162⟩, st162⟩ := X160.virtualBack hx (y := (⟨"com/example/converge/converge/runtime/WireReader", "readVarint", "()J"⟩ : MethodName)) (z := (⟨"com/example/converge/converge/runtime/WireReader", "readVarint", "()J"⟩ : MethodName)) hown (mvT hZ (hw _ (List.mem_of_getElem? (i := 39) rfl))) (mvT hZ (hw _ (List.mem_of_getElem? (i := 34) rfl))) (notFace_of_selects (args := #[]) (mvT hZ (hw _ (List.mem_of_getElem? (i := 36) rfl)))) (mvT hZ (hw _ (List.mem_of_getElem? (i := 36) rfl))) (mvT hZ (hw _ (List.mem_of_getElem? (i := 35) rfl))) (by decide) (backOf (W := 0) (rm7 l Z a0 hw [] b157 b129 (1 : Int32) (4 : Int32) k129 (4 : Int32) [(.int (nar .byte ((3 : Int32).toInt8.toInt32))), (.int (nar .byte ((p2 &&& (127 : Int32)).toInt8.toInt32))), (.int (nar .byte ((p3 &&& (127 : Int32)).toInt8.toInt32))), (.int (nar .byte ((p4 &&& (127 : Int32)).toInt8.toInt32)))] (nar .byte ((p2 &&& (127 : Int32)).toInt8.toInt32)) T157.heap n0 Zs159 E157d g_b157 Gb157 Gp157 Ge157 Vn_161 (by decide) ⟨by decide, by decide⟩ rfl (own_nb _)) hZ (hw _ (List.mem_of_getElem? (i := 37) rfl)) (hw _ (List.mem_of_getElem? (i := 3) rfl)) (by decide) (by decide)) q162a q162c (g := (mkF m 158 #[iv p1, iv p2, iv p3, iv p4, iv (3 : Int32), rv b129, rv b135, iv (1 : Int32), rv b149, rv b157] [(.ref b157)])) rfl (by rw [hml]; rfl) (Steps.refl _) (argsL := []) (rest := []) (lenOf pd_1 rfl) rfl (by show 2 * 0 + _ ≤ _; exact Nat.le_of_eq rfl) (hb hby at_158) (fun _ _ => ⟨rfl, e160, (by decide : 5 + 0 ≤ _), (by decide : 13 + 0 ≤ _)⟩)
    dsimp only [Pt.U, Pt.locs, Pt.cells, Pt.slots] at X162 l162 y162 z162 st162 hQ162
    subst l162 y162 z162
    obtain ⟨rfl, N162q, K162, E162c, Fb162, Fp162, Fe162⟩ := hQ162
    have N162 := Fr.app N160 N162q
    rw [show ((1 : Int32) + (1 : Int32)) = (2 : Int32) from by decide] at Fp162
    have Zs164 : n0 ≤ T162.heap.size := (Nat.le_trans Zs159 K162.1)
    obtain ⟨cq163, kq163, q163a, q163b, q163c⟩ := isOf hZ rfl E162c
    obtain ⟨_, _, ⟨T163, L163, k163, n163⟩, -, X163, ⟨Lc163, hQ163, l163, y163, z163⟩, st163⟩ := X162.virtualBack hx (y := (⟨"com/example/converge/converge/runtime/WireReader", "isAtEnd", "()Z"⟩ : MethodName)) (z := (⟨"com/example/converge/converge/runtime/WireReader", "isAtEnd", "()Z"⟩ : MethodName)) hown (mvT hZ (hw _ (List.mem_of_getElem? (i := 19) rfl))) (mvT hZ (hw _ (List.mem_of_getElem? (i := 20) rfl))) (notFace_of_selects (args := #[]) (mvT hZ (hw _ (List.mem_of_getElem? (i := 22) rfl)))) (mvT hZ (hw _ (List.mem_of_getElem? (i := 22) rfl))) (mvT hZ (hw _ (List.mem_of_getElem? (i := 21) rfl))) (by decide) (backOf (W := 0) (rm4 l Z a0 hw [] b157 (2 : Int32) (4 : Int32) T162.heap n0 Zs164 Fp162 Fe162) hZ (hw _ (List.mem_of_getElem? (i := 23) rfl)) (hw _ (List.mem_of_getElem? (i := 3) rfl)) (by decide) (by decide)) q163a q163c (g := (mkF m 169 #[iv p1, iv p2, iv p3, iv p4, iv (3 : Int32), rv b129, rv b135, iv (1 : Int32), rv b149, rv b157] [(.ref b157)])) rfl (by rw [hml]; rfl) (Steps.refl _) (argsL := []) (rest := []) (lenOf pd_4 rfl) rfl (by show 2 * 0 + _ ≤ _; exact Nat.le_of_eq rfl) (hb hby at_169) (fun _ _ => ⟨rfl, rfl, (by decide : 5 + 0 ≤ _), (by decide : 13 + 0 ≤ _)⟩)
    dsimp only [Pt.U, Pt.locs, Pt.cells, Pt.slots] at X163 l163 y163 z163 st163 hQ163
    subst l163 y163 z163
    obtain ⟨hv163, N163q, e163q⟩ := hQ163
    have N163 := Fr.app N162 N163q
    rw [show own_end (2 : Int32) (4 : Int32) = (0 : Int32) from by decide] at hv163
    subst hv163
    have e163 : T163.heap = T162.heap := e163q
    have pre165 : ∀ t, own_S p e below T163 m 238 #[iv p1, iv p2, iv p3, iv p4, iv (3 : Int32), rv b129, rv b135, iv (1 : Int32), rv b149, rv b157] [(.int (1 : Int32))] t → Steps p.tables e below (s₁.setTop (entryFrame m #[(.int p1), (.int p2), (.int p3), (.int p4)] maxLocals)) t := fun t k => pre1 t (by
      show own_S p e below s₁ m 5 #[iv p1, iv p2, iv p3, iv p4, iv (3 : Int32), .unset, .unset, .unset, .unset, .unset] [] _
      refine XS.iconst X0.here hx rfl (hb hby at_5) ?_
      show own_S p e below s₁ m 6 #[iv p1, iv p2, iv p3, iv p4, iv (3 : Int32), .unset, .unset, .unset, .unset, .unset] [(.int (4 : Int32))] _
      refine st129 _ ?_
      show own_S p e below T129 m 8 #[iv p1, iv p2, iv p3, iv p4, iv (3 : Int32), .unset, .unset, .unset, .unset, .unset] [(.ref b129)] _
      refine XS.astore X129.here hx rfl (hb hby at_8) rfl rfl (l' := #[iv p1, iv p2, iv p3, iv p4, iv (3 : Int32), rv b129, .unset, .unset, .unset, .unset]) rfl ?_
      show own_S p e below T129 m 10 #[iv p1, iv p2, iv p3, iv p4, iv (3 : Int32), rv b129, .unset, .unset, .unset, .unset] [] _
      refine XS.aload X129.here hx rfl (hb hby at_10) rfl rfl ?_
      show own_S p e below T129 m 12 #[iv p1, iv p2, iv p3, iv p4, iv (3 : Int32), rv b129, .unset, .unset, .unset, .unset] [(.ref b129)] _
      refine XS.iconst X129.here hx rfl (hb hby at_12) ?_
      show own_S p e below T129 m 13 #[iv p1, iv p2, iv p3, iv p4, iv (3 : Int32), rv b129, .unset, .unset, .unset, .unset] [(.int (0 : Int32)), (.ref b129)] _
      refine XS.iload X129.here hx rfl (hb hby at_13) rfl ?_
      show own_S p e below T129 m 15 #[iv p1, iv p2, iv p3, iv p4, iv (3 : Int32), rv b129, .unset, .unset, .unset, .unset] [(.int (3 : Int32)), (.int (0 : Int32)), (.ref b129)] _
      refine XS.i2b X129.here hx rfl (hb hby at_15) rfl ?_
      show own_S p e below T129 m 16 #[iv p1, iv p2, iv p3, iv p4, iv (3 : Int32), rv b129, .unset, .unset, .unset, .unset] [(.int ((3 : Int32).toInt8.toInt32)), (.int (0 : Int32)), (.ref b129)] _
      refine st130 _ ?_
      show own_S p e below T130 m 17 #[iv p1, iv p2, iv p3, iv p4, iv (3 : Int32), rv b129, .unset, .unset, .unset, .unset] [] _
      refine XS.aload X130.here hx rfl (hb hby at_17) rfl rfl ?_
      show own_S p e below T130 m 19 #[iv p1, iv p2, iv p3, iv p4, iv (3 : Int32), rv b129, .unset, .unset, .unset, .unset] [(.ref b129)] _
      refine XS.iconst X130.here hx rfl (hb hby at_19) ?_
      show own_S p e below T130 m 20 #[iv p1, iv p2, iv p3, iv p4, iv (3 : Int32), rv b129, .unset, .unset, .unset, .unset] [(.int (1 : Int32)), (.ref b129)] _
      refine XS.iloadN X130.here hx rfl (hb hby at_20) rfl ?_
      show own_S p e below T130 m 21 #[iv p1, iv p2, iv p3, iv p4, iv (3 : Int32), rv b129, .unset, .unset, .unset, .unset] [(.int p2), (.int (1 : Int32)), (.ref b129)] _
      refine XS.bipush X130.here hx rfl (hb hby at_21) ?_
      show own_S p e below T130 m 23 #[iv p1, iv p2, iv p3, iv p4, iv (3 : Int32), rv b129, .unset, .unset, .unset, .unset] [(.int (127 : Int32)), (.int p2), (.int (1 : Int32)), (.ref b129)] _
      refine XS.iand X130.here hx rfl (hb hby at_23) rfl ?_
      show own_S p e below T130 m 24 #[iv p1, iv p2, iv p3, iv p4, iv (3 : Int32), rv b129, .unset, .unset, .unset, .unset] [(.int (p2 &&& (127 : Int32))), (.int (1 : Int32)), (.ref b129)] _
      refine XS.i2b X130.here hx rfl (hb hby at_24) rfl ?_
      show own_S p e below T130 m 25 #[iv p1, iv p2, iv p3, iv p4, iv (3 : Int32), rv b129, .unset, .unset, .unset, .unset] [(.int ((p2 &&& (127 : Int32)).toInt8.toInt32)), (.int (1 : Int32)), (.ref b129)] _
      refine st131 _ ?_
      show own_S p e below T131 m 26 #[iv p1, iv p2, iv p3, iv p4, iv (3 : Int32), rv b129, .unset, .unset, .unset, .unset] [] _
      refine XS.aload X131.here hx rfl (hb hby at_26) rfl rfl ?_
      show own_S p e below T131 m 28 #[iv p1, iv p2, iv p3, iv p4, iv (3 : Int32), rv b129, .unset, .unset, .unset, .unset] [(.ref b129)] _
      refine XS.iconst X131.here hx rfl (hb hby at_28) ?_
      show own_S p e below T131 m 29 #[iv p1, iv p2, iv p3, iv p4, iv (3 : Int32), rv b129, .unset, .unset, .unset, .unset] [(.int (2 : Int32)), (.ref b129)] _
      refine XS.iloadN X131.here hx rfl (hb hby at_29) rfl ?_
      show own_S p e below T131 m 30 #[iv p1, iv p2, iv p3, iv p4, iv (3 : Int32), rv b129, .unset, .unset, .unset, .unset] [(.int p3), (.int (2 : Int32)), (.ref b129)] _
      refine XS.bipush X131.here hx rfl (hb hby at_30) ?_
      show own_S p e below T131 m 32 #[iv p1, iv p2, iv p3, iv p4, iv (3 : Int32), rv b129, .unset, .unset, .unset, .unset] [(.int (127 : Int32)), (.int p3), (.int (2 : Int32)), (.ref b129)] _
      refine XS.iand X131.here hx rfl (hb hby at_32) rfl ?_
      show own_S p e below T131 m 33 #[iv p1, iv p2, iv p3, iv p4, iv (3 : Int32), rv b129, .unset, .unset, .unset, .unset] [(.int (p3 &&& (127 : Int32))), (.int (2 : Int32)), (.ref b129)] _
      refine XS.i2b X131.here hx rfl (hb hby at_33) rfl ?_
      show own_S p e below T131 m 34 #[iv p1, iv p2, iv p3, iv p4, iv (3 : Int32), rv b129, .unset, .unset, .unset, .unset] [(.int ((p3 &&& (127 : Int32)).toInt8.toInt32)), (.int (2 : Int32)), (.ref b129)] _
      refine st132 _ ?_
      show own_S p e below T132 m 35 #[iv p1, iv p2, iv p3, iv p4, iv (3 : Int32), rv b129, .unset, .unset, .unset, .unset] [] _
      refine XS.aload X132.here hx rfl (hb hby at_35) rfl rfl ?_
      show own_S p e below T132 m 37 #[iv p1, iv p2, iv p3, iv p4, iv (3 : Int32), rv b129, .unset, .unset, .unset, .unset] [(.ref b129)] _
      refine XS.iconst X132.here hx rfl (hb hby at_37) ?_
      show own_S p e below T132 m 38 #[iv p1, iv p2, iv p3, iv p4, iv (3 : Int32), rv b129, .unset, .unset, .unset, .unset] [(.int (3 : Int32)), (.ref b129)] _
      refine XS.iloadN X132.here hx rfl (hb hby at_38) rfl ?_
      show own_S p e below T132 m 39 #[iv p1, iv p2, iv p3, iv p4, iv (3 : Int32), rv b129, .unset, .unset, .unset, .unset] [(.int p4), (.int (3 : Int32)), (.ref b129)] _
      refine XS.bipush X132.here hx rfl (hb hby at_39) ?_
      show own_S p e below T132 m 41 #[iv p1, iv p2, iv p3, iv p4, iv (3 : Int32), rv b129, .unset, .unset, .unset, .unset] [(.int (127 : Int32)), (.int p4), (.int (3 : Int32)), (.ref b129)] _
      refine XS.iand X132.here hx rfl (hb hby at_41) rfl ?_
      show own_S p e below T132 m 42 #[iv p1, iv p2, iv p3, iv p4, iv (3 : Int32), rv b129, .unset, .unset, .unset, .unset] [(.int (p4 &&& (127 : Int32))), (.int (3 : Int32)), (.ref b129)] _
      refine XS.i2b X132.here hx rfl (hb hby at_42) rfl ?_
      show own_S p e below T132 m 43 #[iv p1, iv p2, iv p3, iv p4, iv (3 : Int32), rv b129, .unset, .unset, .unset, .unset] [(.int ((p4 &&& (127 : Int32)).toInt8.toInt32)), (.int (3 : Int32)), (.ref b129)] _
      refine st133 _ ?_
      show own_S p e below T133 m 44 #[iv p1, iv p2, iv p3, iv p4, iv (3 : Int32), rv b129, .unset, .unset, .unset, .unset] [] _
      refine st135 _ ?_
      show own_S p e below T135 m 47 #[iv p1, iv p2, iv p3, iv p4, iv (3 : Int32), rv b129, .unset, .unset, .unset, .unset] [(.ref b135)] _
      refine XS.dup X135.here hx rfl (hb hby at_47) rfl rfl ?_
      show own_S p e below T135 m 48 #[iv p1, iv p2, iv p3, iv p4, iv (3 : Int32), rv b129, .unset, .unset, .unset, .unset] [(.ref b135), (.ref b135)] _
      refine XS.iconst X135.here hx rfl (hb hby at_48) ?_
      show own_S p e below T135 m 49 #[iv p1, iv p2, iv p3, iv p4, iv (3 : Int32), rv b129, .unset, .unset, .unset, .unset] [(.int (0 : Int32)), (.ref b135), (.ref b135)] _
      refine st138 _ ?_
      show own_S p e below T138 m 51 #[iv p1, iv p2, iv p3, iv p4, iv (3 : Int32), rv b129, .unset, .unset, .unset, .unset] [(.ref b138), (.ref b135), (.ref b135)] _
      refine st143.trans ?_
      show own_S p e below T143 m 54 #[iv p1, iv p2, iv p3, iv p4, iv (3 : Int32), rv b129, .unset, .unset, .unset, .unset] [(.ref b135)] _
      refine XS.astore X143.here hx rfl (hb hby at_54) rfl rfl (l' := #[iv p1, iv p2, iv p3, iv p4, iv (3 : Int32), rv b129, rv b135, .unset, .unset, .unset]) rfl ?_
      show own_S p e below T143 m 56 #[iv p1, iv p2, iv p3, iv p4, iv (3 : Int32), rv b129, rv b135, .unset, .unset, .unset] [] _
      refine XS.aload X143.here hx rfl (hb hby at_56) rfl rfl ?_
      show own_S p e below T143 m 58 #[iv p1, iv p2, iv p3, iv p4, iv (3 : Int32), rv b129, rv b135, .unset, .unset, .unset] [(.ref b135)] _
      refine st145.trans ?_
      show own_S p e below T145 m 61 #[iv p1, iv p2, iv p3, iv p4, iv (3 : Int32), rv b129, rv b135, .unset, .unset, .unset] [(.int (1 : Int32))] _
      refine XS.istore X145.here hx rfl (hb hby at_61) rfl (l' := #[iv p1, iv p2, iv p3, iv p4, iv (3 : Int32), rv b129, rv b135, iv (1 : Int32), .unset, .unset]) rfl ?_
      show own_S p e below T145 m 63 #[iv p1, iv p2, iv p3, iv p4, iv (3 : Int32), rv b129, rv b135, iv (1 : Int32), .unset, .unset] [] _
      refine st149 _ ?_
      show own_S p e below T149 m 66 #[iv p1, iv p2, iv p3, iv p4, iv (3 : Int32), rv b129, rv b135, iv (1 : Int32), .unset, .unset] [(.ref b149)] _
      refine XS.dup X149.here hx rfl (hb hby at_66) rfl rfl ?_
      show own_S p e below T149 m 67 #[iv p1, iv p2, iv p3, iv p4, iv (3 : Int32), rv b129, rv b135, iv (1 : Int32), .unset, .unset] [(.ref b149), (.ref b149)] _
      refine XS.aload X149.here hx rfl (hb hby at_67) rfl rfl ?_
      show own_S p e below T149 m 69 #[iv p1, iv p2, iv p3, iv p4, iv (3 : Int32), rv b129, rv b135, iv (1 : Int32), .unset, .unset] [(.ref b129), (.ref b149), (.ref b149)] _
      refine st151.trans ?_
      show own_S p e below T151 m 72 #[iv p1, iv p2, iv p3, iv p4, iv (3 : Int32), rv b129, rv b135, iv (1 : Int32), .unset, .unset] [(.ref b149)] _
      refine XS.astore X151.here hx rfl (hb hby at_72) rfl rfl (l' := #[iv p1, iv p2, iv p3, iv p4, iv (3 : Int32), rv b129, rv b135, iv (1 : Int32), rv b149, .unset]) rfl ?_
      show own_S p e below T151 m 74 #[iv p1, iv p2, iv p3, iv p4, iv (3 : Int32), rv b129, rv b135, iv (1 : Int32), rv b149, .unset] [] _
      refine XS.iload X151.here hx rfl (hb hby at_74) rfl ?_
      show own_S p e below T151 m 76 #[iv p1, iv p2, iv p3, iv p4, iv (3 : Int32), rv b129, rv b135, iv (1 : Int32), rv b149, .unset] [(.int (1 : Int32))] _
      refine XS.ifNo X151.here hx rfl (hb hby at_76) rfl ((if0 _ _).trans (feq (by decide : ¬ ((1 : Int32) = (0 : Int32)))).1) ?_
      show own_S p e below T151 m 79 #[iv p1, iv p2, iv p3, iv p4, iv (3 : Int32), rv b129, rv b135, iv (1 : Int32), rv b149, .unset] [] _
      refine XS.aload X151.here hx rfl (hb hby at_79) rfl rfl ?_
      show own_S p e below T151 m 81 #[iv p1, iv p2, iv p3, iv p4, iv (3 : Int32), rv b129, rv b135, iv (1 : Int32), rv b149, .unset] [(.ref b149)] _
      refine st153.trans ?_
      show own_S p e below T153 m 84 #[iv p1, iv p2, iv p3, iv p4, iv (3 : Int32), rv b129, rv b135, iv (1 : Int32), rv b149, .unset] [(.int (0 : Int32))] _
      refine XS.ifNo X153.here hx rfl (hb hby at_84) rfl ((if0 _ _).trans (teq (by decide : (0 : Int32) = (0 : Int32))).2) ?_
      show own_S p e below T153 m 87 #[iv p1, iv p2, iv p3, iv p4, iv (3 : Int32), rv b129, rv b135, iv (1 : Int32), rv b149, .unset] [] _
      refine XS.iconst X153.here hx rfl (hb hby at_87) ?_
      show own_S p e below T153 m 88 #[iv p1, iv p2, iv p3, iv p4, iv (3 : Int32), rv b129, rv b135, iv (1 : Int32), rv b149, .unset] [(.int (1 : Int32))] _
      refine XS.goto X153.here hx rfl (pc0 := 88) (pc' := 92) rfl (hb hby at_88) (by decide) (by decide) ?_
      show own_S p e below T153 m 92 #[iv p1, iv p2, iv p3, iv p4, iv (3 : Int32), rv b129, rv b135, iv (1 : Int32), rv b149, .unset] [(.int (1 : Int32))] _
      refine XS.istore X153.here hx rfl (hb hby at_92) rfl (l' := #[iv p1, iv p2, iv p3, iv p4, iv (3 : Int32), rv b129, rv b135, iv (1 : Int32), rv b149, .unset]) rfl ?_
      show own_S p e below T153 m 94 #[iv p1, iv p2, iv p3, iv p4, iv (3 : Int32), rv b129, rv b135, iv (1 : Int32), rv b149, .unset] [] _
      refine XS.aload X153.here hx rfl (hb hby at_94) rfl rfl ?_
      show own_S p e below T153 m 96 #[iv p1, iv p2, iv p3, iv p4, iv (3 : Int32), rv b129, rv b135, iv (1 : Int32), rv b149, .unset] [(.ref b149)] _
      refine st157.trans ?_
      show own_S p e below T157 m 99 #[iv p1, iv p2, iv p3, iv p4, iv (3 : Int32), rv b129, rv b135, iv (1 : Int32), rv b149, .unset] [(.ref b157)] _
      refine XS.astore X157.here hx rfl (hb hby at_99) rfl rfl (l' := #[iv p1, iv p2, iv p3, iv p4, iv (3 : Int32), rv b129, rv b135, iv (1 : Int32), rv b149, rv b157]) rfl ?_
      show own_S p e below T157 m 101 #[iv p1, iv p2, iv p3, iv p4, iv (3 : Int32), rv b129, rv b135, iv (1 : Int32), rv b149, rv b157] [] _
      refine XS.iload X157.here hx rfl (hb hby at_101) rfl ?_
      show own_S p e below T157 m 103 #[iv p1, iv p2, iv p3, iv p4, iv (3 : Int32), rv b129, rv b135, iv (1 : Int32), rv b149, rv b157] [(.int (1 : Int32))] _
      refine XS.ifNo X157.here hx rfl (hb hby at_103) rfl ((if0 _ _).trans (feq (by decide : ¬ ((1 : Int32) = (0 : Int32)))).1) ?_
      show own_S p e below T157 m 106 #[iv p1, iv p2, iv p3, iv p4, iv (3 : Int32), rv b129, rv b135, iv (1 : Int32), rv b149, rv b157] [] _
      refine XS.aload X157.here hx rfl (hb hby at_106) rfl rfl ?_
      show own_S p e below T157 m 108 #[iv p1, iv p2, iv p3, iv p4, iv (3 : Int32), rv b129, rv b135, iv (1 : Int32), rv b149, rv b157] [(.ref b149)] _
      refine st158.trans ?_
      show own_S p e below T158 m 111 #[iv p1, iv p2, iv p3, iv p4, iv (3 : Int32), rv b129, rv b135, iv (1 : Int32), rv b149, rv b157] [(.int (1 : Int32))] _
      refine XS.iload X158.here hx rfl (hb hby at_111) rfl ?_
      show own_S p e below T158 m 113 #[iv p1, iv p2, iv p3, iv p4, iv (3 : Int32), rv b129, rv b135, iv (1 : Int32), rv b149, rv b157] [(.int (3 : Int32)), (.int (1 : Int32))] _
      refine XS.iconst X158.here hx rfl (hb hby at_113) ?_
      show own_S p e below T158 m 114 #[iv p1, iv p2, iv p3, iv p4, iv (3 : Int32), rv b129, rv b135, iv (1 : Int32), rv b149, rv b157] [(.int (3 : Int32)), (.int (3 : Int32)), (.int (1 : Int32))] _
      refine XS.icmpNo X158.here hx rfl (hb hby at_114) rfl (teq (by decide : (3 : Int32) = (3 : Int32))).2 ?_
      show own_S p e below T158 m 117 #[iv p1, iv p2, iv p3, iv p4, iv (3 : Int32), rv b129, rv b135, iv (1 : Int32), rv b149, rv b157] [(.int (1 : Int32))] _
      refine XS.iconst X158.here hx rfl (hb hby at_117) ?_
      show own_S p e below T158 m 118 #[iv p1, iv p2, iv p3, iv p4, iv (3 : Int32), rv b129, rv b135, iv (1 : Int32), rv b149, rv b157] [(.int (1 : Int32)), (.int (1 : Int32))] _
      refine XS.goto X158.here hx rfl (pc0 := 118) (pc' := 122) rfl (hb hby at_118) (by decide) (by decide) ?_
      show own_S p e below T158 m 122 #[iv p1, iv p2, iv p3, iv p4, iv (3 : Int32), rv b129, rv b135, iv (1 : Int32), rv b149, rv b157] [(.int (1 : Int32)), (.int (1 : Int32))] _
      refine XS.icmpNo X158.here hx rfl (hb hby at_122) rfl (teq (by decide : (1 : Int32) = (1 : Int32))).2 ?_
      show own_S p e below T158 m 125 #[iv p1, iv p2, iv p3, iv p4, iv (3 : Int32), rv b129, rv b135, iv (1 : Int32), rv b149, rv b157] [] _
      refine XS.aload X158.here hx rfl (hb hby at_125) rfl rfl ?_
      show own_S p e below T158 m 127 #[iv p1, iv p2, iv p3, iv p4, iv (3 : Int32), rv b129, rv b135, iv (1 : Int32), rv b149, rv b157] [(.ref b157)] _
      refine st160.trans ?_
      show own_S p e below T160 m 130 #[iv p1, iv p2, iv p3, iv p4, iv (3 : Int32), rv b129, rv b135, iv (1 : Int32), rv b149, rv b157] [(.int (0 : Int32))] _
      refine XS.iload X160.here hx rfl (hb hby at_130) rfl ?_
      show own_S p e below T160 m 132 #[iv p1, iv p2, iv p3, iv p4, iv (3 : Int32), rv b129, rv b135, iv (1 : Int32), rv b149, rv b157] [(.int (3 : Int32)), (.int (0 : Int32))] _
      refine XS.ifYes X160.here hx rfl (pc0 := 132) (pc' := 139) rfl (hb hby at_132) rfl ((if0 _ _).trans (feq (by decide : ¬ ((3 : Int32) = (0 : Int32)))).2) (by decide) (by decide) ?_
      show own_S p e below T160 m 139 #[iv p1, iv p2, iv p3, iv p4, iv (3 : Int32), rv b129, rv b135, iv (1 : Int32), rv b149, rv b157] [(.int (0 : Int32))] _
      refine XS.iconst X160.here hx rfl (hb hby at_139) ?_
      show own_S p e below T160 m 140 #[iv p1, iv p2, iv p3, iv p4, iv (3 : Int32), rv b129, rv b135, iv (1 : Int32), rv b149, rv b157] [(.int (0 : Int32)), (.int (0 : Int32))] _
      refine XS.icmpNo X160.here hx rfl (hb hby at_140) rfl (teq (by decide : (0 : Int32) = (0 : Int32))).2 ?_
      show own_S p e below T160 m 143 #[iv p1, iv p2, iv p3, iv p4, iv (3 : Int32), rv b129, rv b135, iv (1 : Int32), rv b149, rv b157] [] _
      refine XS.iconst X160.here hx rfl (hb hby at_143) ?_
      show own_S p e below T160 m 144 #[iv p1, iv p2, iv p3, iv p4, iv (3 : Int32), rv b129, rv b135, iv (1 : Int32), rv b149, rv b157] [(.int (1 : Int32))] _
      refine XS.goto X160.here hx rfl (pc0 := 144) (pc' := 148) rfl (hb hby at_144) (by decide) (by decide) ?_
      show own_S p e below T160 m 148 #[iv p1, iv p2, iv p3, iv p4, iv (3 : Int32), rv b129, rv b135, iv (1 : Int32), rv b149, rv b157] [(.int (1 : Int32))] _
      refine XS.istore X160.here hx rfl (hb hby at_148) rfl (l' := #[iv p1, iv p2, iv p3, iv p4, iv (3 : Int32), rv b129, rv b135, iv (1 : Int32), rv b149, rv b157]) rfl ?_
      show own_S p e below T160 m 150 #[iv p1, iv p2, iv p3, iv p4, iv (3 : Int32), rv b129, rv b135, iv (1 : Int32), rv b149, rv b157] [] _
      refine XS.iload X160.here hx rfl (hb hby at_150) rfl ?_
      show own_S p e below T160 m 152 #[iv p1, iv p2, iv p3, iv p4, iv (3 : Int32), rv b129, rv b135, iv (1 : Int32), rv b149, rv b157] [(.int (3 : Int32))] _
      refine XS.iconst X160.here hx rfl (hb hby at_152) ?_
      show own_S p e below T160 m 153 #[iv p1, iv p2, iv p3, iv p4, iv (3 : Int32), rv b129, rv b135, iv (1 : Int32), rv b149, rv b157] [(.int (1 : Int32)), (.int (3 : Int32))] _
      refine XS.icmpNo X160.here hx rfl (hb hby at_153) rfl (flt (by decide : ¬ ((3 : Int32) < (1 : Int32)))).1 ?_
      show own_S p e below T160 m 156 #[iv p1, iv p2, iv p3, iv p4, iv (3 : Int32), rv b129, rv b135, iv (1 : Int32), rv b149, rv b157] [] _
      refine XS.aload X160.here hx rfl (hb hby at_156) rfl rfl ?_
      show own_S p e below T160 m 158 #[iv p1, iv p2, iv p3, iv p4, iv (3 : Int32), rv b129, rv b135, iv (1 : Int32), rv b149, rv b157] [(.ref b157)] _
      refine st162.trans ?_
      show own_S p e below T162 m 161 #[iv p1, iv p2, iv p3, iv p4, iv (3 : Int32), rv b129, rv b135, iv (1 : Int32), rv b149, rv b157] [(.long (own_val (nar .byte ((p2 &&& (127 : Int32)).toInt8.toInt32))))] _
      jvm_step X162.here [X162.here.top, hx, (hb hby at_161), Value.category]
      show own_S p e below T162 m 162 #[iv p1, iv p2, iv p3, iv p4, iv (3 : Int32), rv b129, rv b135, iv (1 : Int32), rv b149, rv b157] [] _
      refine XS.iload X162.here hx rfl (hb hby at_162) rfl ?_
      show own_S p e below T162 m 164 #[iv p1, iv p2, iv p3, iv p4, iv (3 : Int32), rv b129, rv b135, iv (1 : Int32), rv b149, rv b157] [(.int (1 : Int32))] _
      refine XS.ifNo X162.here hx rfl (hb hby at_164) rfl ((if0 _ _).trans (feq (by decide : ¬ ((1 : Int32) = (0 : Int32)))).1) ?_
      show own_S p e below T162 m 167 #[iv p1, iv p2, iv p3, iv p4, iv (3 : Int32), rv b129, rv b135, iv (1 : Int32), rv b149, rv b157] [] _
      refine XS.aload X162.here hx rfl (hb hby at_167) rfl rfl ?_
      show own_S p e below T162 m 169 #[iv p1, iv p2, iv p3, iv p4, iv (3 : Int32), rv b129, rv b135, iv (1 : Int32), rv b149, rv b157] [(.ref b157)] _
      refine st163.trans ?_
      show own_S p e below T163 m 172 #[iv p1, iv p2, iv p3, iv p4, iv (3 : Int32), rv b129, rv b135, iv (1 : Int32), rv b149, rv b157] [(.int (0 : Int32))] _
      refine XS.iload X163.here hx rfl (hb hby at_172) rfl ?_
      show own_S p e below T163 m 174 #[iv p1, iv p2, iv p3, iv p4, iv (3 : Int32), rv b129, rv b135, iv (1 : Int32), rv b149, rv b157] [(.int (3 : Int32)), (.int (0 : Int32))] _
      refine XS.iconst X163.here hx rfl (hb hby at_174) ?_
      show own_S p e below T163 m 175 #[iv p1, iv p2, iv p3, iv p4, iv (3 : Int32), rv b129, rv b135, iv (1 : Int32), rv b149, rv b157] [(.int (1 : Int32)), (.int (3 : Int32)), (.int (0 : Int32))] _
      refine XS.icmpYes X163.here hx rfl (pc0 := 175) (pc' := 182) rfl (hb hby at_175) rfl (feq (by decide : ¬ ((3 : Int32) = (1 : Int32)))).2 (by decide) (by decide) ?_
      show own_S p e below T163 m 182 #[iv p1, iv p2, iv p3, iv p4, iv (3 : Int32), rv b129, rv b135, iv (1 : Int32), rv b149, rv b157] [(.int (0 : Int32))] _
      refine XS.iconst X163.here hx rfl (hb hby at_182) ?_
      show own_S p e below T163 m 183 #[iv p1, iv p2, iv p3, iv p4, iv (3 : Int32), rv b129, rv b135, iv (1 : Int32), rv b149, rv b157] [(.int (0 : Int32)), (.int (0 : Int32))] _
      refine XS.icmpNo X163.here hx rfl (hb hby at_183) rfl (teq (by decide : (0 : Int32) = (0 : Int32))).2 ?_
      show own_S p e below T163 m 186 #[iv p1, iv p2, iv p3, iv p4, iv (3 : Int32), rv b129, rv b135, iv (1 : Int32), rv b149, rv b157] [] _
      refine XS.iconst X163.here hx rfl (hb hby at_186) ?_
      show own_S p e below T163 m 187 #[iv p1, iv p2, iv p3, iv p4, iv (3 : Int32), rv b129, rv b135, iv (1 : Int32), rv b149, rv b157] [(.int (1 : Int32))] _
      refine XS.goto X163.here hx rfl (pc0 := 187) (pc' := 191) rfl (hb hby at_187) (by decide) (by decide) ?_
      show own_S p e below T163 m 191 #[iv p1, iv p2, iv p3, iv p4, iv (3 : Int32), rv b129, rv b135, iv (1 : Int32), rv b149, rv b157] [(.int (1 : Int32))] _
      refine XS.istore X163.here hx rfl (hb hby at_191) rfl (l' := #[iv p1, iv p2, iv p3, iv p4, iv (3 : Int32), rv b129, rv b135, iv (1 : Int32), rv b149, rv b157]) rfl ?_
      show own_S p e below T163 m 193 #[iv p1, iv p2, iv p3, iv p4, iv (3 : Int32), rv b129, rv b135, iv (1 : Int32), rv b149, rv b157] [] _
      refine XS.iload X163.here hx rfl (hb hby at_193) rfl ?_
      show own_S p e below T163 m 195 #[iv p1, iv p2, iv p3, iv p4, iv (3 : Int32), rv b129, rv b135, iv (1 : Int32), rv b149, rv b157] [(.int (3 : Int32))] _
      refine XS.iconst X163.here hx rfl (hb hby at_195) ?_
      show own_S p e below T163 m 196 #[iv p1, iv p2, iv p3, iv p4, iv (3 : Int32), rv b129, rv b135, iv (1 : Int32), rv b149, rv b157] [(.int (2 : Int32)), (.int (3 : Int32))] _
      refine XS.icmpYes X163.here hx rfl (pc0 := 196) (pc' := 236) rfl (hb hby at_196) rfl (tlt (by decide : (2 : Int32) < (3 : Int32))).2.2.1 (by decide) (by decide) ?_
      show own_S p e below T163 m 236 #[iv p1, iv p2, iv p3, iv p4, iv (3 : Int32), rv b129, rv b135, iv (1 : Int32), rv b149, rv b157] [] _
      refine XS.iload X163.here hx rfl (hb hby at_236) rfl ?_
      exact k)
    obtain ⟨fs, hr, hrun, hended, hW, hsame⟩ := X163.leave (v := some (.int (nar .boolean (1 : Int32)))) (fun h => by rw [Bd.returns] at h; cases h)
    refine ⟨_, _, pre165 _ ?_, hrun, hended, _, _, rfl, ?_, ⟨_, rfl⟩, hW, hsame.mono (by decide) (by decide)⟩
    · show own_S p e below T163 m 238 #[iv p1, iv p2, iv p3, iv p4, iv (3 : Int32), rv b129, rv b135, iv (1 : Int32), rv b149, rv b157] [(.int (1 : Int32))] _
      exact retN X163 hx (t := .boolean) Bd.returns (by simp) (hb hby at_238) hr
    · show Q0 Z p1 p2 p3 p4 h0 n0 _ T163.heap _
      rw [e163]
      exact ⟨rfl, N163⟩
set_option maxRecDepth 65536 in
set_option maxHeartbeats 40000000 in
theorem comes_1 {Post : Tables → Env → Array Value → State → Outcome → State → Prop} (hpost : ∀ tb e args s v u, (limb_1_1.after args s (.returned v) u = true ∧ limb_1_2.after args s (.returned v) u = true ∧ True) → FrameEnd s (.returned v) u (Jvm.fieldLocs frame_1_writes args s ++ Jvm.arrayLocs frame_1_arrays args s ++ Jvm.staticLocs frame_1_statics s) 24 128 → Post tb e args s (.returned v) u) :
    ArmFor flags0 classFile x code maxLocals ret World_1 tables_1 room_1 Calls_1 rest_1 Pre_1 Post := by
  intro l hfl _ _ p e ha hc hk s m args below hf hA hF happ hP
  obtain ⟨hcalls, hrest, hpre⟩ := hP
  obtain ⟨-, -, -, hnamed, -, -, -, hat⟩ := (Spec.applies_iff hf).mp happ
  obtain ⟨hg, hn⟩ := and_e (Cond.before_iff.mp (show (Jvm.Cond.and given_1 narrow_1).before args s = true from hpre))
  obtain ⟨g1, g2⟩ := and_e hg
  obtain ⟨g3, g4⟩ := and_e g2
  obtain ⟨g5, g6⟩ := and_e g4
  obtain ⟨g7, g8⟩ := and_e g6
  obtain ⟨w0, w1, w2, w3, rfl⟩ : ∃ w0 w1 w2 w3 : Value, args = #[w0, w1, w2, w3] := by
    have hs : args.size = 4 := by simpa [Cond.value, given_1] using g1
    obtain ⟨L⟩ := args
    match L, hs with
    | [w0, w1, w2, w3], _ => exact ⟨w0, w1, w2, w3, rfl⟩
  have hw := fun d (hd : d ∈ tables_1) => atoms_spec (ws := Jvm.Cond.code x code maxLocals ret :: tables_1) hat d (List.mem_cons_of_mem _ hd)
  have hfit : Fit s := fun {y c} hc i hi => by
    obtain ⟨ha, rfl⟩ := Array.getElem?_eq_some_iff.mp hc
    have q := List.all_eq_true.mp ((Array.all_eq_true_iff_forall_mem.mp hF) _ (Array.getElem_mem ha)) i (List.mem_range.mpr hi)
    simpa [Array.getElem?_eq_getElem hi] using q
  obtain ⟨i0, ei0⟩ := is_v g3
  obtain rfl : w0 = (.int i0) := Option.some.inj ei0
  obtain ⟨i1, ei1⟩ := is_v g5
  obtain rfl : w1 = (.int i1) := Option.some.inj ei1
  obtain ⟨i2, ei2⟩ := is_v g7
  obtain rfl : w2 = (.int i2) := Option.some.inj ei2
  obtain ⟨i3, ei3⟩ := is_v g8
  obtain rfl : w3 = (.int i3) := Option.some.inj ei3
  obtain ⟨n, o, h1, h2, h3, _, L, rfl, ⟨rfl, N⟩, hq⟩ := rm0 l s _ hw tables_1 i0 i1 i2 i3 s.heap s.heap.size (Nat.le_refl _)  p e ha hc hk s m _ below hf ((Spec.applies_iff_loose hf).mp happ).1 ⟨rfl, State.Warmed39.refl s, rfl⟩ trivial
  refine ⟨n, _, h1, h2, h3, hpost _ _ _ _ _ _ ⟨Cond.after_iff.mpr rfl, Cond.after_iff.mpr (eq_i res_at (Term.int_eval (1)) rfl), trivial⟩ ⟨hq.1, hq.2.1, (hq.2.2.sift fun y hy => Or.inr (N y hy)).mono (by decide) (by decide)⟩⟩
theorem main_1_1 : Claimed_1_1 := comes_1 fun _ _ _ _ _ _ h hF => ⟨h.1, hF⟩
theorem main_1_2 : Claimed_1_2 := comes_1 fun _ _ _ _ _ _ h hF => ⟨h.2.1, hF⟩
end Jvm.Pilot.@@N@@
namespace Jvm.Pilot.@@N@@
open Jvm Jvm.ClassFile Sem Op Lib Jvm.Free Jvm.Stand Jvm.Pilot.@@N@@.Jvm.D
/-! MADE BY PROGRAM (witnessworld.py) out of the Statement's table words and the real class files: 9 classes; the members and pool entries that the words name. The judged class is class 1, her method 1. -/
namespace start1
open Jvm.ClassFile
def u (s : String) : CpInfo := .utf8 (stringToUtf16 s)
/-- a pool by its gaps: so many unusable entries, then the entry; so many at the end -/
def gap : Nat → List CpInfo → List CpInfo
  | 0, r => r
  | n + 1, r => .unusable :: gap n r
def poolList (es : List (Nat × CpInfo)) (last : Nat) : List CpInfo := es.foldr (fun e r => gap e.1 (e.2 :: r)) (gap last [])
def pool (es : List (Nat × CpInfo)) (last : Nat) : Array CpInfo := ⟨poolList es last⟩
def fileOf (pool : Array CpInfo) (this : Nat) (attrs : Array Attribute := #[]) (ms : Array MethodInfo := #[]) (fl : Nat := 33) (sup : Nat := 0) (ifs : Array Nat := #[]) (fds : Array FieldInfo := #[]) : ClassFile where
  minorVersion := 0
  majorVersion := 65
  constantPool := pool
  accessFlags := fl
  thisClass := this
  superClass := sup
  interfaces := ifs
  fields := fds
  methods := ms
  attributes := attrs
def plain (name : String) (sup : Option ClassId) : Class where
  name := name
  kind := .ordinary
  loader := none
  accessFlags := 33
  super := sup
  interfaces := #[]
  cf := none
  fields := #[]
  methods := #[]
  instanceTypes := #[]
  staticTypes := #[]
  resolved := #[]
  callSites := []
  init := .initialized
  statics := none
  mirror := none

def pool0 : Array CpInfo := pool [(5, u "<init>"), (0, u "()V"), (1, .class_ 10), (1, u "java/lang/Object")] 113

def k0c0 : Code := { maxStack := 0, maxLocals := 1, code := object_method_1_code, exceptionTable := #[], attributes := #[] }
def k0m0 : Method := { name := "<init>", desc := "()V", sig := { parameters := [], returnType := none }, accessFlags := 1, code := some k0c0 }
/-- java/lang/Object -/
def k0 : Class := { plain "java/lang/Object" none with
  accessFlags := 33
  interfaces := #[]
  cf := some (fileOf pool0 8 #[] #[{ accessFlags := 1, nameIndex := 5, descriptorIndex := 6, attributes := #[] }] 33 0 #[] #[])
  fields := #[]
  methods := #[k0m0]
  instanceTypes := #[]
  staticTypes := #[]
  resolved := Array.replicate 124 none
  statics := none }

def pool1 : Array CpInfo := pool [(2, .class_ 4), (1, u "java/lang/Object"), (0, u "<init>"), (0, u "()V"), (0, .class_ 8), (0, u "com/example/converge/converge/runtime/WireReader"), (0, .methodref 7 10), (0, .nameAndType 5 11), (0, u "([B)V"), (0, .methodref 7 13), (0, .nameAndType 14 15), (0, u "isAtEnd"), (0, u "()Z"), (0, .methodref 7 17), (0, .nameAndType 18 19), (0, u "readEmbedded"), (0, u "()Lcom/example/converge/converge/runtime/WireReader;"), (0, .methodref 7 21), (0, .nameAndType 22 23), (0, u "readVarint"), (0, u "()J"), (0, .class_ 25), (0, u "com/example/converge/converge/runtime/WireReaderIsAtEndPinLaw"), (2, u "law"), (0, u "(IIII)Z")] 8

def k1m0 : Method := { name := "<init>", desc := "()V", sig := { parameters := [], returnType := none }, accessFlags := 1, code := none }
def k1c1 : Code := { maxStack := 4, maxLocals := 10, code := code, exceptionTable := #[], attributes := #[] }
def k1m1 : Method := { name := "law", desc := "(IIII)Z", sig := { parameters := [.int, .int, .int, .int], returnType := some .boolean }, accessFlags := 9, code := some k1c1 }
/-- com/example/converge/converge/runtime/WireReaderIsAtEndPinLaw -/
def k1 : Class := { plain "com/example/converge/converge/runtime/WireReaderIsAtEndPinLaw" (some 0) with
  accessFlags := 49
  interfaces := #[]
  cf := some (fileOf pool1 24 #[] #[{ accessFlags := 1, nameIndex := 5, descriptorIndex := 6, attributes := #[] }, { accessFlags := 9, nameIndex := 28, descriptorIndex := 29, attributes := #[] }] 49 2 #[] #[])
  fields := #[]
  methods := #[k1m0, k1m1]
  instanceTypes := #[]
  staticTypes := #[]
  resolved := Array.replicate 38 none
  statics := none }

def pool2 : Array CpInfo := pool [(1, .methodref 2 3), (0, .class_ 4), (0, .nameAndType 5 6), (0, u "com/example/converge/converge/runtime/WireReader"), (0, u "<init>"), (0, u "([BII)V"), (0, .methodref 8 9), (0, .class_ 10), (0, .nameAndType 5 11), (0, u "java/lang/Object"), (0, u "()V"), (0, .fieldref 2 13), (0, .nameAndType 14 15), (0, u "_bytes"), (0, u "[B"), (0, .fieldref 2 17), (0, .nameAndType 18 19), (0, u "_position"), (0, u "I"), (0, .fieldref 2 21), (0, .nameAndType 22 19), (0, u "_end"), (9, .methodref 2 33), (0, .nameAndType 34 35), (0, u "readVarint"), (0, u "()J"), (26, .methodref 2 63), (0, .nameAndType 64 65), (0, u "readLength"), (0, u "()I"), (12, u "MAX_FIELD_NUMBER"), (2, u "MAX_VARINT_BYTES"), (1, u "([B)V"), (3, u "isAtEnd"), (0, u "()Z"), (10, u "readEmbedded"), (0, u "()Lcom/example/converge/converge/runtime/WireReader;")] 23

def k2c0 : Code := { maxStack := 4, maxLocals := 2, code := prog_91_method_1_code, exceptionTable := #[], attributes := #[] }
def k2m0 : Method := { name := "<init>", desc := "([B)V", sig := { parameters := [(.array .byte)], returnType := none }, accessFlags := 1, code := some k2c0 }
def k2c1 : Code := { maxStack := 2, maxLocals := 4, code := prog_91_method_2_code, exceptionTable := #[], attributes := #[] }
def k2m1 : Method := { name := "<init>", desc := "([BII)V", sig := { parameters := [(.array .byte), .int, .int], returnType := none }, accessFlags := 2, code := some k2c1 }
def k2c2 : Code := { maxStack := 2, maxLocals := 1, code := prog_91_method_4_code, exceptionTable := #[], attributes := #[] }
def k2m2 : Method := { name := "isAtEnd", desc := "()Z", sig := { parameters := [], returnType := some .boolean }, accessFlags := 1, code := some k2c2 }
def k2c3 : Code := { maxStack := 6, maxLocals := 6, code := prog_91_method_5_code, exceptionTable := #[], attributes := #[] }
def k2m3 : Method := { name := "readVarint", desc := "()J", sig := { parameters := [], returnType := some .long }, accessFlags := 1, code := some k2c3 }
def k2c4 : Code := { maxStack := 6, maxLocals := 3, code := prog_91_method_12_code, exceptionTable := #[], attributes := #[] }
def k2m4 : Method := { name := "readEmbedded", desc := "()Lcom/example/converge/converge/runtime/WireReader;", sig := { parameters := [], returnType := some (.object "com/example/converge/converge/runtime/WireReader") }, accessFlags := 1, code := some k2c4 }
def k2c5 : Code := { maxStack := 5, maxLocals := 4, code := prog_91_method_13_code, exceptionTable := #[], attributes := #[] }
def k2m5 : Method := { name := "readLength", desc := "()I", sig := { parameters := [], returnType := some .int }, accessFlags := 2, code := some k2c5 }
/-- com/example/converge/converge/runtime/WireReader -/
def k2 : Class := { plain "com/example/converge/converge/runtime/WireReader" (some 0) with
  accessFlags := 49
  interfaces := #[]
  cf := some (fileOf pool2 2 #[] #[{ accessFlags := 1, nameIndex := 5, descriptorIndex := 83, attributes := #[] }, { accessFlags := 2, nameIndex := 5, descriptorIndex := 6, attributes := #[] }, { accessFlags := 1, nameIndex := 87, descriptorIndex := 88, attributes := #[] }, { accessFlags := 1, nameIndex := 34, descriptorIndex := 35, attributes := #[] }, { accessFlags := 1, nameIndex := 99, descriptorIndex := 100, attributes := #[] }, { accessFlags := 2, nameIndex := 64, descriptorIndex := 65, attributes := #[] }] 49 8 #[] #[{ accessFlags := 25, nameIndex := 78, descriptorIndex := 19, attributes := #[] }, { accessFlags := 26, nameIndex := 81, descriptorIndex := 19, attributes := #[] }, { accessFlags := 18, nameIndex := 14, descriptorIndex := 15, attributes := #[] }, { accessFlags := 18, nameIndex := 22, descriptorIndex := 19, attributes := #[] }, { accessFlags := 2, nameIndex := 18, descriptorIndex := 19, attributes := #[] }])
  fields := #[{ name := "MAX_FIELD_NUMBER", type := .int, accessFlags := 25, slot := 0, constantValue := 0 }, { name := "MAX_VARINT_BYTES", type := .int, accessFlags := 26, slot := 1, constantValue := 0 }, { name := "_bytes", type := (.array .byte), accessFlags := 18, slot := 0, constantValue := 0 }, { name := "_end", type := .int, accessFlags := 18, slot := 1, constantValue := 0 }, { name := "_position", type := .int, accessFlags := 2, slot := 2, constantValue := 0 }]
  methods := #[k2m0, k2m1, k2m2, k2m3, k2m4, k2m5]
  instanceTypes := #[(.array .byte), .int, .int]
  staticTypes := #[.int, .int]
  resolved := Array.replicate 124 none
  statics := none }

def pool3 : Array CpInfo := pool [(1, u "java/lang/Cloneable"), (0, .class_ 1), (0, u "java/lang/Object"), (0, .class_ 3)] 3

/-- java/lang/Cloneable -/
def k3 : Class := { plain "java/lang/Cloneable" (some 0) with
  accessFlags := 1537
  interfaces := #[]
  cf := some (fileOf pool3 2 #[] #[] 1537 4 #[] #[])
  fields := #[]
  methods := #[]
  instanceTypes := #[]
  staticTypes := #[]
  resolved := Array.replicate 8 none
  statics := none }

def pool4 : Array CpInfo := pool [(1, u "java/io/Serializable"), (0, .class_ 1), (0, u "java/lang/Object"), (0, .class_ 3)] 3

/-- java/io/Serializable -/
def k4 : Class := { plain "java/io/Serializable" (some 0) with
  accessFlags := 1537
  interfaces := #[]
  cf := some (fileOf pool4 2 #[] #[] 1537 4 #[] #[])
  fields := #[]
  methods := #[]
  instanceTypes := #[]
  staticTypes := #[]
  resolved := Array.replicate 8 none
  statics := none }

/-- the primitive byte -/
def k5 : Class := { plain "byte" none with kind := .primitive 'B', accessFlags := 0x411 }
/-- [B -/
def k6 : Class := { plain "[B" (some 0) with kind := .array 5 .byte, interfaces := #[3, 4], accessFlags := 1041 }

/-- the primitive int -/
def k7 : Class := { plain "int" none with kind := .primitive 'I', accessFlags := 0x411 }
/-- [I -/
def k8 : Class := { plain "[I" (some 0) with kind := .array 7 .int, interfaces := #[3, 4], accessFlags := 1041 }

def heap : Heap := #[]
def classes : Array Class := #[k0, k1, k2, k3, k4, k5, k6, k7, k8]
def interned : List (Array UInt16 × Addr) := []
def slotsUsed : Nat := 0
def theMethod : MethodId := ⟨1, 1⟩
def args0 : Array Value := #[.int 1, .int 2, .int 3, .int 4]
def aboutOver (below : List Frame) : State where
  vm := { classes := classes, interned := interned.toArray }
  heap := heap
  slotsUsed := slotsUsed
  threads := #[{ frames := .invoking theMethod args0 :: below }]
def below0 : List Frame := [.native { method := ⟨0, 0⟩, args := #[] }]
def about1 : State := aboutOver below0
def p0 : Program := .bare "" "" ""
def e0 : Env := launch0.env 0 0 0
theorem w_frames : about1.frames = Frame.invoking theMethod args0 :: below0 := rfl
set_option maxRecDepth 65536 in
theorem w_args : argsFit about1.vm theMethod args0 = true := by decide +kernel
set_option maxRecDepth 65536 in
theorem w_heap : heapFits about1 = true := by decide +kernel
set_option maxRecDepth 65536 in
theorem w_runnable : about1.curStatus? = some .runnable := by decide +kernel
set_option maxRecDepth 65536 in
theorem w_alone : about1.alone = true := by decide +kernel
set_option maxRecDepth 65536 in
theorem w_named : about1.methodNamed? x = some theMethod := by decide +kernel
set_option maxRecDepth 65536 in
theorem w_hears : about1.hears theMethod below0 = true := by decide +kernel
set_option maxRecDepth 65536 in
theorem w_ripe : about1.ripe theMethod args0 below0 = true := by decide +kernel
theorem w_running : about1.status = .running := rfl
set_option maxRecDepth 65536 in
theorem w_room : about1.hasRoom e0.platform room_1 = true :=
  launch0.hasRoom_least _ room_1 (by decide +kernel) (by decide +kernel) (by decide +kernel) (by decide +kernel) (by decide +kernel) (by decide +kernel)
theorem allAtoms_all (ts : List Jvm.Cond) (a : Array Jvm.Value) (st : Jvm.State) : (allAtoms ts).before a st = ts.all (fun c => c.before a st) := by
  induction ts with
  | nil => rfl
  | cons c t ih =>
    show (Jvm.Cond.and c (allAtoms t)).before a st = _
    rw [Jvm.Cond.before_and, ih, List.all_cons]
def words1 : List Jvm.Cond := Jvm.Cond.code x code maxLocals ret :: tables_1
/-- a 'code' word, met by the world's own term for the bytes: nothing is compared byte by byte -/
theorem code_word {y : MethodName} {bytes : ByteArray} {mx : Nat} {rt : Option FieldType} {a : Array Value} {s : State} {m : MethodId} {meth : Method} {c : Code} (h1 : s.methodNamed? y = some m) (h2 : s.vm.method? m = some meth) (h3 : meth.code = some c) (h4 : c.code = bytes)
    (h5 : (c.maxLocals == mx && c.exceptionTable.isEmpty && decide (c.maxStack ≤ mostOperands) && decide (meth.sig.returnType = rt) && !meth.locks && decide (parseMethodDescriptor y.desc = some meth.sig)) = true) : (Jvm.Cond.code y bytes mx rt).before a s = true := by
  simp only [Bool.and_eq_true, beq_iff_eq, Bool.not_eq_true', decide_eq_true_eq] at h5
  obtain ⟨⟨⟨⟨⟨g1, g2⟩, g3⟩, g4⟩, g5⟩, g6⟩ := h5
  simp [Cond.before, Cond.holds, Cond.value, h1, h2, h3, h4, g1, g2, g3, g4, g5, g6]
def isCode : Jvm.Cond → Bool
  | .code _ _ _ _ => true
  | _ => false
theorem all_split {L : List Jvm.Cond} {P : Jvm.Cond → Bool} (h1 : L.all (fun c => isCode c || P c) = true) (h2 : ∀ c ∈ L.filter isCode, P c = true) : L.all P = true := by
  refine List.all_eq_true.mpr fun c hc => ?_
  have h := List.all_eq_true.mp h1 c hc
  rcases Bool.eq_false_or_eq_true (isCode c) with hi | hi
  · exact h2 c (List.mem_filter.mpr ⟨hc, hi⟩)
  · simpa [hi] using h
set_option maxRecDepth 65536 in
theorem w_c0 : (Jvm.Cond.code x code maxLocals ret).before args0 about1 = true := code_word (m := ⟨1, 1⟩) (meth := k1m1) (c := k1c1) (by decide +kernel) rfl rfl rfl (by decide +kernel)
set_option maxRecDepth 65536 in
theorem w_c1 : (Jvm.Cond.code ({ cls := "com/example/converge/converge/runtime/WireReader", name := "<init>", desc := "([B)V" } : Jvm.MethodName) prog_91_method_1_code (2 : Nat) (Option.none : Option Jvm.ClassFile.FieldType)).before args0 about1 = true := code_word (m := ⟨2, 0⟩) (meth := k2m0) (c := k2c0) (by decide +kernel) rfl rfl rfl (by decide +kernel)
set_option maxRecDepth 65536 in
theorem w_c2 : (Jvm.Cond.code ({ cls := "com/example/converge/converge/runtime/WireReader", name := "<init>", desc := "([BII)V" } : Jvm.MethodName) prog_91_method_2_code (4 : Nat) (Option.none : Option Jvm.ClassFile.FieldType)).before args0 about1 = true := code_word (m := ⟨2, 1⟩) (meth := k2m1) (c := k2c1) (by decide +kernel) rfl rfl rfl (by decide +kernel)
set_option maxRecDepth 65536 in
theorem w_c3 : (Jvm.Cond.code ({ cls := "java/lang/Object", name := "<init>", desc := "()V" } : Jvm.MethodName) object_method_1_code (1 : Nat) (Option.none : Option Jvm.ClassFile.FieldType)).before args0 about1 = true := code_word (m := ⟨0, 0⟩) (meth := k0m0) (c := k0c0) (by decide +kernel) rfl rfl rfl (by decide +kernel)
set_option maxRecDepth 65536 in
theorem w_c4 : (Jvm.Cond.code ({ cls := "com/example/converge/converge/runtime/WireReader", name := "isAtEnd", desc := "()Z" } : Jvm.MethodName) prog_91_method_4_code (1 : Nat) (Option.some Jvm.ClassFile.FieldType.boolean)).before args0 about1 = true := code_word (m := ⟨2, 2⟩) (meth := k2m2) (c := k2c2) (by decide +kernel) rfl rfl rfl (by decide +kernel)
set_option maxRecDepth 65536 in
theorem w_c5 : (Jvm.Cond.code ({ cls := "com/example/converge/converge/runtime/WireReader", name := "readEmbedded", desc := "()Lcom/example/converge/converge/runtime/WireReader;" } : Jvm.MethodName) prog_91_method_12_code (3 : Nat) (Option.some (Jvm.ClassFile.FieldType.object "com/example/converge/converge/runtime/WireReader"))).before args0 about1 = true := code_word (m := ⟨2, 4⟩) (meth := k2m4) (c := k2c4) (by decide +kernel) rfl rfl rfl (by decide +kernel)
set_option maxRecDepth 65536 in
theorem w_c6 : (Jvm.Cond.code ({ cls := "com/example/converge/converge/runtime/WireReader", name := "readLength", desc := "()I" } : Jvm.MethodName) prog_91_method_13_code (4 : Nat) (Option.some Jvm.ClassFile.FieldType.int)).before args0 about1 = true := code_word (m := ⟨2, 5⟩) (meth := k2m5) (c := k2c5) (by decide +kernel) rfl rfl rfl (by decide +kernel)
set_option maxRecDepth 65536 in
theorem w_c7 : (Jvm.Cond.code ({ cls := "com/example/converge/converge/runtime/WireReader", name := "readVarint", desc := "()J" } : Jvm.MethodName) prog_91_method_5_code (6 : Nat) (Option.some Jvm.ClassFile.FieldType.long)).before args0 about1 = true := code_word (m := ⟨2, 3⟩) (meth := k2m3) (c := k2c3) (by decide +kernel) rfl rfl rfl (by decide +kernel)
def codes1 : List Jvm.Cond := [Jvm.Cond.code x code maxLocals ret, Jvm.Cond.code ({ cls := "com/example/converge/converge/runtime/WireReader", name := "<init>", desc := "([B)V" } : Jvm.MethodName) prog_91_method_1_code (2 : Nat) (Option.none : Option Jvm.ClassFile.FieldType), Jvm.Cond.code ({ cls := "com/example/converge/converge/runtime/WireReader", name := "<init>", desc := "([BII)V" } : Jvm.MethodName) prog_91_method_2_code (4 : Nat) (Option.none : Option Jvm.ClassFile.FieldType), Jvm.Cond.code ({ cls := "java/lang/Object", name := "<init>", desc := "()V" } : Jvm.MethodName) object_method_1_code (1 : Nat) (Option.none : Option Jvm.ClassFile.FieldType), Jvm.Cond.code ({ cls := "com/example/converge/converge/runtime/WireReader", name := "isAtEnd", desc := "()Z" } : Jvm.MethodName) prog_91_method_4_code (1 : Nat) (Option.some Jvm.ClassFile.FieldType.boolean), Jvm.Cond.code ({ cls := "com/example/converge/converge/runtime/WireReader", name := "readEmbedded", desc := "()Lcom/example/converge/converge/runtime/WireReader;" } : Jvm.MethodName) prog_91_method_12_code (3 : Nat) (Option.some (Jvm.ClassFile.FieldType.object "com/example/converge/converge/runtime/WireReader")), Jvm.Cond.code ({ cls := "com/example/converge/converge/runtime/WireReader", name := "readLength", desc := "()I" } : Jvm.MethodName) prog_91_method_13_code (4 : Nat) (Option.some Jvm.ClassFile.FieldType.int), Jvm.Cond.code ({ cls := "com/example/converge/converge/runtime/WireReader", name := "readVarint", desc := "()J" } : Jvm.MethodName) prog_91_method_5_code (6 : Nat) (Option.some Jvm.ClassFile.FieldType.long)]
set_option maxRecDepth 65536 in
theorem codes_eq : words1.filter isCode = codes1 := rfl
theorem w_codes : ∀ c ∈ words1.filter isCode, c.before args0 about1 = true := by
  rw [codes_eq]
  intro c hc
  simp only [codes1, List.mem_cons, List.not_mem_nil, or_false] at hc
  rcases hc with rfl | rfl | rfl | rfl | rfl | rfl | rfl | rfl
  · exact w_c0
  · exact w_c1
  · exact w_c2
  · exact w_c3
  · exact w_c4
  · exact w_c5
  · exact w_c6
  · exact w_c7
set_option maxRecDepth 65536 in
theorem w_t1 : (words1.take 24).all (fun c => isCode c || c.before args0 about1) = true := by decide +kernel
set_option maxRecDepth 65536 in
theorem w_t2 : (words1.drop 24).all (fun c => isCode c || c.before args0 about1) = true := by decide +kernel
theorem w_tables : (allAtoms (Jvm.Cond.code x code maxLocals ret :: tables_1)).before args0 about1 = true := by
  rw [allAtoms_all]
  show words1.all (fun c => c.before args0 about1) = true
  refine all_split ?_ w_codes
  rw [← List.take_append_drop 24 words1, List.all_append, w_t1, w_t2]
  rfl
set_option maxRecDepth 65536 in
theorem w_case : (Jvm.Cond.and given_1 narrow_1).before args0 about1 = true := by decide +kernel
theorem w_applies : (headSpec (Jvm.Cond.code x code maxLocals ret :: tables_1) room_1).applies x e0.platform about1 = true :=
  (Spec.applies_iff w_frames).mpr ⟨w_running, w_runnable, w_alone, w_named, w_hears, w_ripe, w_room, w_tables⟩
theorem atStart : AtStart classFile x code maxLocals ret World_1 tables_1 room_1 Calls_1 rest_1 Pre_1 launch0 p0 e0 about1 theMethod args0 below0 :=
  ⟨lists_1, trivial, launch0.admits_env _ _ _, launch0.least_env, fairChoices_fair.cas, fairChoices_fair.clock, w_frames, w_args, w_heap, w_applies, trivial, trivial, w_case⟩
end start1
theorem witness_1 : WitnessClaimed_1 := ⟨start1.p0, start1.e0, start1.about1, start1.theMethod, start1.args0, start1.below0, start1.atStart⟩
end Jvm.Pilot.@@N@@
