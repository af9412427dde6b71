import JvmDerived
import JvmDerived.Pilot.@@N@@Statement
import JvmDerived.Pilot.@@N@@Code
set_option linter.unusedVariables false
set_option linter.unusedSimpArgs false
namespace Jvm.RoadKit
open Sem ClassFile Op Lib Jvm.Stand Jvm.Free Jvm.LawKit
section New
variable {p : Program} {l : Launch} {e : Env} {R : Room} {s : State} {m : MethodId} {args : Array Value} {below : List Frame} {meth : Method} {c : Code} {T : State} {locs : List Loc} {cells slots : Nat}
theorem retI (X : Stand p l e R s m args below meth c T locs cells slots) (hx : p.tables.exec = Jvm.exec) {pc : Nat} {Ls : Array Slot} {z : Int32} {rest : List Value} (hret : meth.sig.returnType = some .int) (hd : decode c.code pc = .ok (.ireturn, 1)) {fs : List Frame}
    (hl : ∀ (f : JFrame) (acts : List Action), f.method = m → f.locked = none → f.entered = [] → (doReturn e (T.setTop f) acts (some (.int z))).1 = T.setFrames fs) : Steps p.tables e below (T.setTop (mkF m pc Ls (.int z :: rest))) (T.setFrames fs) := by
  have hm' : T.vm.method? m = some meth := X.method'
  have hn : narrow .int (.int z) = .int z := rfl
  show Steps p.tables e below (T.setTop { method := m, pc := pc, locals := Ls, stack := _ :: rest, locked := none }) _
  jvm_step X.here [X.here.top, hx, hd, hm', hret, hn]
  first | (intro acts; rw [hl _ acts rfl rfl rfl]) | rw [hl _ _ rfl rfl rfl]
  exact Steps.refl _
end New
end Jvm.RoadKit
namespace Jvm.Pilot.@@N@@
open Jvm Jvm.ClassFile Sem Op Lib Jvm.Free Jvm.Stand Jvm.LawKit Jvm.RoadKit Bundle Jvm.Pilot.@@N@@.Jvm.D
abbrev own_S (p : Program) (e : Env) (b : List Frame) (T : State) (m : MethodId) (pc : Nat) (L : Array Slot) (S : List Value) (t : State) : Prop := Steps p.tables e b (T.setTop (mkF m pc L S)) t
def own_one (b : Int32) : Int64 := if b = 0 then 0 else 1
theorem pn_0 : plainName "com/example/clockwright/clockwright/mcmc/Acceptance" = true := by first | (simp [plainName, overriddenIn]; done) | decide +kernel
theorem ef_1 (m : MethodId) (a1 : Addr) : entryFrame m #[(.ref a1)] 1 = mkF m 0 #[rv a1] [] := by first | (simp [entryFrame, mkF, argsToLocals, Value.category]; done) | rfl
def Q1 (Z : State) (a1 : Addr) (h0 : Heap) (n0 : Nat) (v : Option Value) (h : Heap) (L : List Loc) : Prop := v = none ∧ Fr n0 L ∧ h = h0
theorem d1_0 : decode prog_30_method_1_code 0 = .ok (.aload_n 0, 1) := by decide +kernel
theorem d1_1 : decode prog_30_method_1_code 1 = .ok (.invokespecial 1, 3) := by decide +kernel
theorem d1_4 : decode prog_30_method_1_code 4 = .ok (.return_, 1) := by decide +kernel
set_option maxRecDepth 65536 in
set_option maxHeartbeats 40000000 in
theorem rm1 (l : Launch) (Z : State) (a0 : Array Value) (hw : ∀ d ∈ tables_1, d.before a0 Z = true) (ws : List Jvm.Cond) (a1 : Addr) (h0 : Heap) (n0 : Nat) (Z0 : n0 ≤ h0.size)  :
    MetFree l (⟨"com/example/clockwright/clockwright/mcmc/Acceptance", "<init>", "()V"⟩ : MethodName) (head1 (Jvm.Cond.code (⟨"com/example/clockwright/clockwright/mcmc/Acceptance", "<init>", "()V"⟩ : MethodName) prog_30_method_1_code 1 none :: ws) ({ frames := 1, cells := 0, slots := 0, locals := 12 } : Room)) (fun a U => a = #[(.ref a1)] ∧ Z.Warmed39 U.vm ∧ U.heap = h0) (fun _ _ _ _ _ => True) (fun _ U o U' => ∃ v L, o = .returned v ∧ Q1 Z a1 h0 n0 v U'.heap L ∧ FrameEnd U o U' L ({ frames := 1, cells := 0, slots := 0, locals := 12 } : Room).cells ({ frames := 1, cells := 0, slots := 0, locals := 12 } : Room).slots) := by
  refine MetFree.of_bodySF (plainFor_of_name pn_0) hisR ?_
  intro p e s m args below meth c s₁ Bd hml0 hP hK
  obtain ⟨rfl, hZ, hh⟩ := hP
  have hx := Bd.exec
  have hby := Bd.bytes
  have hml : c.maxLocals = 1 := hml0
  have hown : s.vm.findClass "com/example/clockwright/clockwright/mcmc/Acceptance" = some m.cls := findClass_of_methodNamed Bd.named
  have hnm := (name_of_methodNamed Bd.named Bd.method).1
  have X0 : Stand p l e ({ frames := 1, cells := 0, slots := 0, locals := 12 } : Room) s m #[(.ref a1)] below meth c s₁ [] 0 0 := Stand.of_body Bd
  have e0 : s₁.heap = h0 := by rw [← hh, Bd.state]; rfl
  have N0 := Fr.nil n0
  have pre0 : ∀ t, Steps p.tables e below (s₁.setTop (mkF m 0 #[rv a1] [])) t → Steps p.tables e below (s₁.setTop (entryFrame m #[(.ref a1)] 1)) t := fun t k => castTop (ef_1 m a1) k
  obtain ⟨T1, X1, e1, st1⟩ := initO X0 hx hZ hown (hw _ (List.mem_of_getElem? (i := 6) rfl)) (hw _ (List.mem_of_getElem? (i := 7) rfl)) (hw _ (List.mem_of_getElem? (i := 8) rfl)) e0 (g := (mkF m 1 #[rv a1] [(.ref a1)])) rfl (by rw [hml]; rfl) rfl (hb hby d1_1) (by decide) (W := 0) (by show 2 * 0 + _ ≤ _; exact Nat.le_of_eq rfl) (by decide)
  have pre2 : ∀ t, own_S p e below T1 m 4 #[rv a1] [] t → Steps p.tables e below (s₁.setTop (entryFrame m #[(.ref a1)] 1)) t := fun t k => pre0 t (by
    show own_S p e below s₁ m 0 #[rv a1] [] _
    refine XS.aloadN X0.here hx rfl (hb hby d1_0) rfl rfl ?_
    show own_S p e below s₁ m 1 #[rv a1] [(.ref a1)] _
    refine st1 _ ?_
    exact k)
  obtain ⟨fs, hr, hrun, hended, hW, hsame⟩ := X1.leave (v := none) (fun _ => rfl)
  refine ⟨_, _, pre2 _ ?_, hrun, hended, _, _, rfl, ?_, ⟨_, rfl⟩, hW, hsame.mono (by decide) (by decide)⟩
  · show own_S p e below T1 m 4 #[rv a1] [] _
    exact X1.returnOut hx Bd.returns (hb hby d1_4) hr
  · show Q1 Z a1 h0 n0 _ T1.heap _
    rw [e1]
    exact ⟨rfl, N0, rfl⟩
theorem ef_3 (m : MethodId) (a1 : Addr) (p2 : Int32) : entryFrame m #[(.ref a1), (.int p2)] 2 = mkF m 0 #[rv a1, iv p2] [] := by first | (simp [entryFrame, mkF, argsToLocals, Value.category]; done) | rfl
def Q3 (Z : State) (a1 : Addr) (p2 : Int32) (P : Int64) (A : Int64) (h0 : Heap) (n0 : Nat) (v : Option Value) (h : Heap) (L : List Loc) : Prop := v = none ∧ Fr n0 L ∧ Keep h0 h [a1] ∧ Exa Z h a1 "com/example/clockwright/clockwright/mcmc/Acceptance" ∧ Fld Z h a1 "com/example/clockwright/clockwright/mcmc/Acceptance" "proposals" "J" (.long (P + (1 : Int64))) ∧ Fld Z h a1 "com/example/clockwright/clockwright/mcmc/Acceptance" "accepted" "J" (.long (A + own_one p2))
theorem d3_0 : decode prog_30_method_2_code 0 = .ok (.aload_n 0, 1) := by decide +kernel
theorem d3_1 : decode prog_30_method_2_code 1 = .ok (.dup, 1) := by decide +kernel
theorem d3_2 : decode prog_30_method_2_code 2 = .ok (.getfield 7, 3) := by decide +kernel
theorem d3_5 : decode prog_30_method_2_code 5 = .ok (.lconst 1, 1) := by decide +kernel
theorem d3_6 : decode prog_30_method_2_code 6 = .ok (.ladd, 1) := by decide +kernel
theorem d3_7 : decode prog_30_method_2_code 7 = .ok (.putfield 7, 3) := by decide +kernel
theorem d3_10 : decode prog_30_method_2_code 10 = .ok (.iload_n 1, 1) := by decide +kernel
theorem d3_11 : decode prog_30_method_2_code 11 = .ok (.ifCond .eq 13, 3) := by decide +kernel
theorem d3_24 : decode prog_30_method_2_code 24 = .ok (.return_, 1) := by decide +kernel
theorem d3_14 : decode prog_30_method_2_code 14 = .ok (.aload_n 0, 1) := by decide +kernel
theorem d3_15 : decode prog_30_method_2_code 15 = .ok (.dup, 1) := by decide +kernel
theorem d3_16 : decode prog_30_method_2_code 16 = .ok (.getfield 13, 3) := by decide +kernel
theorem d3_19 : decode prog_30_method_2_code 19 = .ok (.lconst 1, 1) := by decide +kernel
theorem d3_20 : decode prog_30_method_2_code 20 = .ok (.ladd, 1) := by decide +kernel
theorem d3_21 : decode prog_30_method_2_code 21 = .ok (.putfield 13, 3) := by decide +kernel
set_option maxRecDepth 65536 in
set_option maxHeartbeats 40000000 in
theorem rm3 (l : Launch) (Z : State) (a0 : Array Value) (hw : ∀ d ∈ tables_1, d.before a0 Z = true) (ws : List Jvm.Cond) (a1 : Addr) (p2 : Int32) (P : Int64) (A : Int64) (h0 : Heap) (n0 : Nat) (Z0 : n0 ≤ h0.size) (E_a1 : Exa Z h0 a1 "com/example/clockwright/clockwright/mcmc/Acceptance") (g_a1 : n0 ≤ a1) (F_p : Fld Z h0 a1 "com/example/clockwright/clockwright/mcmc/Acceptance" "proposals" "J" (.long P)) (F_a : Fld Z h0 a1 "com/example/clockwright/clockwright/mcmc/Acceptance" "accepted" "J" (.long A)) :
    MetFree l (⟨"com/example/clockwright/clockwright/mcmc/Acceptance", "count", "(Z)V"⟩ : MethodName) (head1 (Jvm.Cond.code (⟨"com/example/clockwright/clockwright/mcmc/Acceptance", "count", "(Z)V"⟩ : MethodName) prog_30_method_2_code 2 none :: ws) ({ frames := 0, cells := 0, slots := 0, locals := 0 } : Room)) (fun a U => a = #[(.ref a1), (.int p2)] ∧ Z.Warmed39 U.vm ∧ U.heap = h0) (fun _ _ _ _ _ => True) (fun _ U o U' => ∃ v L, o = .returned v ∧ Q3 Z a1 p2 P A h0 n0 v U'.heap L ∧ FrameEnd U o U' L ({ frames := 0, cells := 0, slots := 0, locals := 0 } : Room).cells ({ frames := 0, cells := 0, slots := 0, locals := 0 } : Room).slots) := by
  refine MetFree.of_bodySF (plainFor_of_name pn_0) hisR ?_
  intro p e s m args below meth c s₁ Bd hml0 hP hK
  obtain ⟨rfl, hZ, hh⟩ := hP
  have hx := Bd.exec
  have hby := Bd.bytes
  have hml : c.maxLocals = 2 := hml0
  have hown : s.vm.findClass "com/example/clockwright/clockwright/mcmc/Acceptance" = some m.cls := findClass_of_methodNamed Bd.named
  have hnm := (name_of_methodNamed Bd.named Bd.method).1
  have X0 : Stand p l e ({ frames := 0, cells := 0, slots := 0, locals := 0 } : Room) s m #[(.ref a1), (.int p2)] below meth c s₁ [] 0 0 := Stand.of_body Bd
  have e0 : s₁.heap = h0 := by rw [← hh, Bd.state]; rfl
  have N0 := Fr.nil n0
  have pre0 : ∀ t, Steps p.tables e below (s₁.setTop (mkF m 0 #[rv a1, iv p2] [])) t → Steps p.tables e below (s₁.setTop (entryFrame m #[(.ref a1), (.int p2)] 2)) t := fun t k => castTop (ef_3 m a1 p2) k
  obtain ⟨T1, X1, e1, st1⟩ := getF X0 hx hZ hown (host := "") (Or.inl (hw _ (List.mem_of_getElem? (i := 14) rfl))) Via.refl e0 F_p (g := (mkF m 2 #[rv a1, iv p2] [(.ref a1), (.ref a1)])) rfl rfl (hb hby d3_2)
  obtain ⟨T2, h2, X2, e2, W2, st2⟩ := putF X1 hx hZ hown (host := "") (Or.inl (hw _ (List.mem_of_getElem? (i := 14) rfl))) Via.refl e1 F_p E_a1 (Or.inl (hw _ (List.mem_of_getElem? (i := 15) rfl))) (hw _ (List.mem_of_getElem? (i := 1) rfl)) (ty := .long) (by decide) rfl rfl (g := (mkF m 7 #[rv a1, iv p2] [(.long (P + (1 : Int64))), (.ref a1)])) rfl rfl (hb hby d3_7)
  have Fw2 := F_p.same W2
  have N2 := Fr.snoc X2 N0 g_a1
  have pre4 : ∀ t, own_S p e below T2 m 11 #[rv a1, iv p2] [(.int p2)] t → Steps p.tables e below (s₁.setTop (entryFrame m #[(.ref a1), (.int p2)] 2)) t := fun t k => pre0 t (by
    show own_S p e below s₁ m 0 #[rv a1, iv p2] [] _
    refine XS.aloadN X0.here hx rfl (hb hby d3_0) rfl rfl ?_
    show own_S p e below s₁ m 1 #[rv a1, iv p2] [(.ref a1)] _
    refine XS.dup X0.here hx rfl (hb hby d3_1) rfl rfl ?_
    show own_S p e below s₁ m 2 #[rv a1, iv p2] [(.ref a1), (.ref a1)] _
    refine st1 _ ?_
    show own_S p e below T1 m 5 #[rv a1, iv p2] [(.long P), (.ref a1)] _
    refine XS.lconst X1.here hx rfl (hb hby d3_5) ?_
    show own_S p e below T1 m 6 #[rv a1, iv p2] [(.long (1 : Int64)), (.long P), (.ref a1)] _
    refine XS.ladd X1.here hx rfl (hb hby d3_6) rfl ?_
    show own_S p e below T1 m 7 #[rv a1, iv p2] [(.long (P + (1 : Int64))), (.ref a1)] _
    refine st2 _ ?_
    show own_S p e below T2 m 10 #[rv a1, iv p2] [] _
    refine XS.iloadN X2.here hx rfl (hb hby d3_10) rfl ?_
    exact k)
  by_cases hc11_3 : p2 = (0 : Int32)
  ·  -- pc 11 yes
    have pre5 : ∀ t, own_S p e below T2 m 24 #[rv a1, iv p2] [] t → Steps p.tables e below (s₁.setTop (entryFrame m #[(.ref a1), (.int p2)] 2)) t := fun t k => pre4 t (by
      show own_S p e below T2 m 11 #[rv a1, iv p2] [(.int p2)] _
      refine XS.ifYes X2.here hx rfl (pc0 := 11) (pc' := 24) rfl (hb hby d3_11) rfl ((if0 _ _).trans (teq hc11_3).1) (by decide) (by decide) ?_
      exact k)
    obtain ⟨fs, hr, hrun, hended, hW, hsame⟩ := X2.leave (v := none) (fun _ => rfl)
    refine ⟨_, _, pre5 _ ?_, hrun, hended, _, _, rfl, ?_, ⟨_, rfl⟩, hW, hsame.mono (by decide) (by decide)⟩
    · show own_S p e below T2 m 24 #[rv a1, iv p2] [] _
      exact X2.returnOut hx Bd.returns (hb hby d3_24) hr
    · show Q3 Z a1 p2 P A h0 n0 _ T2.heap _
      rw [e2]
      have Fn_6 := (F_a.other W2 (Or.inr (slot_ne (Or.inl (hw _ (List.mem_of_getElem? (i := 27) rfl))) (Or.inl (hw _ (List.mem_of_getElem? (i := 15) rfl))) (by decide) (t := .long) (t' := .long) (by decide) (by decide))))
      have En_7 := (E_a1.wr W2)
      refine ⟨rfl, N2, ((Keep.refl h0 [a1]).wr W2 (Or.inl (List.mem_of_getElem? (i := 0) rfl))), En_7, Fw2, ?_⟩
      rw [show A + own_one p2 = A from by simp [own_one, hc11_3]]
      exact Fn_6
  ·  -- pc 11 no
    have Fn_8 := (F_a.other W2 (Or.inr (slot_ne (Or.inl (hw _ (List.mem_of_getElem? (i := 27) rfl))) (Or.inl (hw _ (List.mem_of_getElem? (i := 15) rfl))) (by decide) (t := .long) (t' := .long) (by decide) (by decide))))
    obtain ⟨T9, X9, e9, st9⟩ := getF X2 hx hZ hown (host := "") (Or.inl (hw _ (List.mem_of_getElem? (i := 26) rfl))) Via.refl e2 Fn_8 (g := (mkF m 16 #[rv a1, iv p2] [(.ref a1), (.ref a1)])) rfl rfl (hb hby d3_16)
    have En_10 := (E_a1.wr W2)
    obtain ⟨T11, h11, X11, e11, W11, st11⟩ := putF X9 hx hZ hown (host := "") (Or.inl (hw _ (List.mem_of_getElem? (i := 26) rfl))) Via.refl e9 Fn_8 En_10 (Or.inl (hw _ (List.mem_of_getElem? (i := 27) rfl))) (hw _ (List.mem_of_getElem? (i := 1) rfl)) (ty := .long) (by decide) rfl rfl (g := (mkF m 21 #[rv a1, iv p2] [(.long (A + (1 : Int64))), (.ref a1)])) rfl rfl (hb hby d3_21)
    have Fw11 := Fn_8.same W11
    have N11 := Fr.snoc X11 N2 g_a1
    have pre12 : ∀ t, own_S p e below T11 m 24 #[rv a1, iv p2] [] t → Steps p.tables e below (s₁.setTop (entryFrame m #[(.ref a1), (.int p2)] 2)) t := fun t k => pre4 t (by
      show own_S p e below T2 m 11 #[rv a1, iv p2] [(.int p2)] _
      refine XS.ifNo X2.here hx rfl (hb hby d3_11) rfl ((if0 _ _).trans (feq hc11_3).1) ?_
      show own_S p e below T2 m 14 #[rv a1, iv p2] [] _
      refine XS.aloadN X2.here hx rfl (hb hby d3_14) rfl rfl ?_
      show own_S p e below T2 m 15 #[rv a1, iv p2] [(.ref a1)] _
      refine XS.dup X2.here hx rfl (hb hby d3_15) rfl rfl ?_
      show own_S p e below T2 m 16 #[rv a1, iv p2] [(.ref a1), (.ref a1)] _
      refine st9 _ ?_
      show own_S p e below T9 m 19 #[rv a1, iv p2] [(.long A), (.ref a1)] _
      refine XS.lconst X9.here hx rfl (hb hby d3_19) ?_
      show own_S p e below T9 m 20 #[rv a1, iv p2] [(.long (1 : Int64)), (.long A), (.ref a1)] _
      refine XS.ladd X9.here hx rfl (hb hby d3_20) rfl ?_
      show own_S p e below T9 m 21 #[rv a1, iv p2] [(.long (A + (1 : Int64))), (.ref a1)] _
      refine st11 _ ?_
      exact k)
    obtain ⟨fs, hr, hrun, hended, hW, hsame⟩ := X11.leave (v := none) (fun _ => rfl)
    refine ⟨_, _, pre12 _ ?_, hrun, hended, _, _, rfl, ?_, ⟨_, rfl⟩, hW, hsame.mono (by decide) (by decide)⟩
    · show own_S p e below T11 m 24 #[rv a1, iv p2] [] _
      exact X11.returnOut hx Bd.returns (hb hby d3_24) hr
    · show Q3 Z a1 p2 P A h0 n0 _ T11.heap _
      rw [e11]
      have Fn_13 := (Fw2.other W11 (Or.inr (slot_ne (Or.inl (hw _ (List.mem_of_getElem? (i := 15) rfl))) (Or.inl (hw _ (List.mem_of_getElem? (i := 27) rfl))) (by decide) (t := .long) (t' := .long) (by decide) (by decide))))
      have En_14 := (En_10.wr W11)
      refine ⟨rfl, N11, (((Keep.refl h0 [a1]).wr W2 (Or.inl (List.mem_of_getElem? (i := 0) rfl))).wr W11 (Or.inl (List.mem_of_getElem? (i := 0) rfl))), En_14, Fn_13, ?_⟩
      rw [show A + own_one p2 = (A + (1 : Int64)) from by simp [own_one, hc11_3]]
      exact Fw11
theorem ef_4 (m : MethodId) (a1 : Addr) : entryFrame m #[(.ref a1)] 1 = mkF m 0 #[rv a1] [] := by first | (simp [entryFrame, mkF, argsToLocals, Value.category]; done) | rfl
def Q4 (Z : State) (a1 : Addr) (P : Int64) (h0 : Heap) (n0 : Nat) (v : Option Value) (h : Heap) (L : List Loc) : Prop := v = some (.long P) ∧ Fr n0 L ∧ h = h0
theorem d4_0 : decode prog_30_method_5_code 0 = .ok (.aload_n 0, 1) := by decide +kernel
theorem d4_1 : decode prog_30_method_5_code 1 = .ok (.getfield 7, 3) := by decide +kernel
theorem d4_4 : decode prog_30_method_5_code 4 = .ok (.lreturn, 1) := by decide +kernel
set_option maxRecDepth 65536 in
set_option maxHeartbeats 40000000 in
theorem rm4 (l : Launch) (Z : State) (a0 : Array Value) (hw : ∀ d ∈ tables_1, d.before a0 Z = true) (ws : List Jvm.Cond) (a1 : Addr) (P : Int64) (h0 : Heap) (n0 : Nat) (Z0 : n0 ≤ h0.size) (F_p : Fld Z h0 a1 "com/example/clockwright/clockwright/mcmc/Acceptance" "proposals" "J" (.long P)) :
    MetFree l (⟨"com/example/clockwright/clockwright/mcmc/Acceptance", "proposals", "()J"⟩ : MethodName) (head1 (Jvm.Cond.code (⟨"com/example/clockwright/clockwright/mcmc/Acceptance", "proposals", "()J"⟩ : MethodName) prog_30_method_5_code 1 (some .long) :: ws) ({ frames := 0, cells := 0, slots := 0, locals := 0 } : Room)) (fun a U => a = #[(.ref a1)] ∧ Z.Warmed39 U.vm ∧ U.heap = h0) (fun _ _ _ _ _ => True) (fun _ U o U' => ∃ v L, o = .returned v ∧ Q4 Z a1 P h0 n0 v U'.heap L ∧ FrameEnd U o U' L ({ frames := 0, cells := 0, slots := 0, locals := 0 } : Room).cells ({ frames := 0, cells := 0, slots := 0, locals := 0 } : Room).slots) := by
  refine MetFree.of_bodySF (plainFor_of_name pn_0) hisR ?_
  intro p e s m args below meth c s₁ Bd hml0 hP hK
  obtain ⟨rfl, hZ, hh⟩ := hP
  have hx := Bd.exec
  have hby := Bd.bytes
  have hml : c.maxLocals = 1 := hml0
  have hown : s.vm.findClass "com/example/clockwright/clockwright/mcmc/Acceptance" = some m.cls := findClass_of_methodNamed Bd.named
  have hnm := (name_of_methodNamed Bd.named Bd.method).1
  have X0 : Stand p l e ({ frames := 0, cells := 0, slots := 0, locals := 0 } : Room) s m #[(.ref a1)] below meth c s₁ [] 0 0 := Stand.of_body Bd
  have e0 : s₁.heap = h0 := by rw [← hh, Bd.state]; rfl
  have N0 := Fr.nil n0
  have pre0 : ∀ t, Steps p.tables e below (s₁.setTop (mkF m 0 #[rv a1] [])) t → Steps p.tables e below (s₁.setTop (entryFrame m #[(.ref a1)] 1)) t := fun t k => castTop (ef_4 m a1) k
  obtain ⟨T1, X1, e1, st1⟩ := getF X0 hx hZ hown (host := "") (Or.inl (hw _ (List.mem_of_getElem? (i := 14) rfl))) Via.refl e0 F_p (g := (mkF m 1 #[rv a1] [(.ref a1)])) rfl rfl (hb hby d4_1)
  have pre2 : ∀ t, own_S p e below T1 m 4 #[rv a1] [(.long P)] t → Steps p.tables e below (s₁.setTop (entryFrame m #[(.ref a1)] 1)) t := fun t k => pre0 t (by
    show own_S p e below s₁ m 0 #[rv a1] [] _
    refine XS.aloadN X0.here hx rfl (hb hby d4_0) rfl rfl ?_
    show own_S p e below s₁ m 1 #[rv a1] [(.ref a1)] _
    refine st1 _ ?_
    exact k)
  obtain ⟨fs, hr, hrun, hended, hW, hsame⟩ := X1.leave (v := some (.long P)) (fun h => by rw [Bd.returns] at h; cases h)
  refine ⟨_, _, pre2 _ ?_, hrun, hended, _, _, rfl, ?_, ⟨_, rfl⟩, hW, hsame.mono (by decide) (by decide)⟩
  · show own_S p e below T1 m 4 #[rv a1] [(.long P)] _
    jvm_step X1.here [X1.here.top, hx, (hb hby d4_4), X1.method', Bd.returns, narrow]
    first | (intro acts; rw [hr _ acts rfl rfl rfl]) | rw [hr _ _ rfl rfl rfl]
    exact Steps.refl _
  · show Q4 Z a1 P h0 n0 _ T1.heap _
    rw [e1]
    exact ⟨rfl, N0, rfl⟩
theorem ef_5 (m : MethodId) (a1 : Addr) : entryFrame m #[(.ref a1)] 1 = mkF m 0 #[rv a1] [] := by first | (simp [entryFrame, mkF, argsToLocals, Value.category]; done) | rfl
def Q5 (Z : State) (a1 : Addr) (P : Int64) (h0 : Heap) (n0 : Nat) (v : Option Value) (h : Heap) (L : List Loc) : Prop := v = some (.long P) ∧ Fr n0 L ∧ h = h0
theorem d5_0 : decode prog_30_method_6_code 0 = .ok (.aload_n 0, 1) := by decide +kernel
theorem d5_1 : decode prog_30_method_6_code 1 = .ok (.getfield 13, 3) := by decide +kernel
theorem d5_4 : decode prog_30_method_6_code 4 = .ok (.lreturn, 1) := by decide +kernel
set_option maxRecDepth 65536 in
set_option maxHeartbeats 40000000 in
theorem rm5 (l : Launch) (Z : State) (a0 : Array Value) (hw : ∀ d ∈ tables_1, d.before a0 Z = true) (ws : List Jvm.Cond) (a1 : Addr) (P : Int64) (h0 : Heap) (n0 : Nat) (Z0 : n0 ≤ h0.size) (F_p : Fld Z h0 a1 "com/example/clockwright/clockwright/mcmc/Acceptance" "accepted" "J" (.long P)) :
    MetFree l (⟨"com/example/clockwright/clockwright/mcmc/Acceptance", "accepted", "()J"⟩ : MethodName) (head1 (Jvm.Cond.code (⟨"com/example/clockwright/clockwright/mcmc/Acceptance", "accepted", "()J"⟩ : MethodName) prog_30_method_6_code 1 (some .long) :: ws) ({ frames := 0, cells := 0, slots := 0, locals := 0 } : Room)) (fun a U => a = #[(.ref a1)] ∧ Z.Warmed39 U.vm ∧ U.heap = h0) (fun _ _ _ _ _ => True) (fun _ U o U' => ∃ v L, o = .returned v ∧ Q5 Z a1 P h0 n0 v U'.heap L ∧ FrameEnd U o U' L ({ frames := 0, cells := 0, slots := 0, locals := 0 } : Room).cells ({ frames := 0, cells := 0, slots := 0, locals := 0 } : Room).slots) := by
  refine MetFree.of_bodySF (plainFor_of_name pn_0) hisR ?_
  intro p e s m args below meth c s₁ Bd hml0 hP hK
  obtain ⟨rfl, hZ, hh⟩ := hP
  have hx := Bd.exec
  have hby := Bd.bytes
  have hml : c.maxLocals = 1 := hml0
  have hown : s.vm.findClass "com/example/clockwright/clockwright/mcmc/Acceptance" = some m.cls := findClass_of_methodNamed Bd.named
  have hnm := (name_of_methodNamed Bd.named Bd.method).1
  have X0 : Stand p l e ({ frames := 0, cells := 0, slots := 0, locals := 0 } : Room) s m #[(.ref a1)] below meth c s₁ [] 0 0 := Stand.of_body Bd
  have e0 : s₁.heap = h0 := by rw [← hh, Bd.state]; rfl
  have N0 := Fr.nil n0
  have pre0 : ∀ t, Steps p.tables e below (s₁.setTop (mkF m 0 #[rv a1] [])) t → Steps p.tables e below (s₁.setTop (entryFrame m #[(.ref a1)] 1)) t := fun t k => castTop (ef_5 m a1) k
  obtain ⟨T1, X1, e1, st1⟩ := getF X0 hx hZ hown (host := "") (Or.inl (hw _ (List.mem_of_getElem? (i := 26) rfl))) Via.refl e0 F_p (g := (mkF m 1 #[rv a1] [(.ref a1)])) rfl rfl (hb hby d5_1)
  have pre2 : ∀ t, own_S p e below T1 m 4 #[rv a1] [(.long P)] t → Steps p.tables e below (s₁.setTop (entryFrame m #[(.ref a1)] 1)) t := fun t k => pre0 t (by
    show own_S p e below s₁ m 0 #[rv a1] [] _
    refine XS.aloadN X0.here hx rfl (hb hby d5_0) rfl rfl ?_
    show own_S p e below s₁ m 1 #[rv a1] [(.ref a1)] _
    refine st1 _ ?_
    exact k)
  obtain ⟨fs, hr, hrun, hended, hW, hsame⟩ := X1.leave (v := some (.long P)) (fun h => by rw [Bd.returns] at h; cases h)
  refine ⟨_, _, pre2 _ ?_, hrun, hended, _, _, rfl, ?_, ⟨_, rfl⟩, hW, hsame.mono (by decide) (by decide)⟩
  · show own_S p e below T1 m 4 #[rv a1] [(.long P)] _
    jvm_step X1.here [X1.here.top, hx, (hb hby d5_4), X1.method', Bd.returns, narrow]
    first | (intro acts; rw [hr _ acts rfl rfl rfl]) | rw [hr _ _ rfl rfl rfl]
    exact Steps.refl _
  · show Q5 Z a1 P h0 n0 _ T1.heap _
    rw [e1]
    exact ⟨rfl, N0, rfl⟩
theorem pn_1 : plainName "com/example/clockwright/clockwright/mcmc/AcceptanceCountPinLaw" = true := by first | (simp [plainName, overriddenIn]; done) | decide +kernel
theorem ef_6 (m : MethodId) (p1 : Int32) : entryFrame m #[(.int p1)] 1 = mkF m 0 #[iv p1] [] := by first | (simp [entryFrame, mkF, argsToLocals, Value.category]; done) | rfl
def Q6 (Z : State) (p1 : Int32) (h0 : Heap) (n0 : Nat) (v : Option Value) (h : Heap) (L : List Loc) : Prop := v = some (.long (own_one p1)) ∧ Fr n0 L ∧ h = h0
theorem d6_0 : decode method_2_code 0 = .ok (.iload_n 0, 1) := by decide +kernel
theorem d6_1 : decode method_2_code 1 = .ok (.ifCond .eq 7, 3) := by decide +kernel
theorem d6_8 : decode method_2_code 8 = .ok (.lconst 0, 1) := by decide +kernel
theorem d6_9 : decode method_2_code 9 = .ok (.lreturn, 1) := by decide +kernel
theorem d6_4 : decode method_2_code 4 = .ok (.lconst 1, 1) := by decide +kernel
theorem d6_5 : decode method_2_code 5 = .ok (.goto 4, 3) := by decide +kernel
set_option maxRecDepth 65536 in
set_option maxHeartbeats 40000000 in
theorem rm6 (l : Launch) (Z : State) (a0 : Array Value) (hw : ∀ d ∈ tables_1, d.before a0 Z = true) (ws : List Jvm.Cond) (p1 : Int32) (h0 : Heap) (n0 : Nat) (Z0 : n0 ≤ h0.size)  :
    MetFree l (⟨"com/example/clockwright/clockwright/mcmc/AcceptanceCountPinLaw", "one", "(Z)J"⟩ : MethodName) (head1 (Jvm.Cond.code (⟨"com/example/clockwright/clockwright/mcmc/AcceptanceCountPinLaw", "one", "(Z)J"⟩ : MethodName) method_2_code 1 (some .long) :: ws) ({ frames := 0, cells := 0, slots := 0, locals := 0 } : Room)) (fun a U => a = #[(.int p1)] ∧ Z.Warmed39 U.vm ∧ U.heap = h0) (fun _ _ _ _ _ => True) (fun _ U o U' => ∃ v L, o = .returned v ∧ Q6 Z p1 h0 n0 v U'.heap L ∧ FrameEnd U o U' L ({ frames := 0, cells := 0, slots := 0, locals := 0 } : Room).cells ({ frames := 0, cells := 0, slots := 0, locals := 0 } : Room).slots) := by
  refine MetFree.of_bodySF (plainFor_of_name pn_1) hisR ?_
  intro p e s m args below meth c s₁ Bd hml0 hP hK
  obtain ⟨rfl, hZ, hh⟩ := hP
  have hx := Bd.exec
  have hby := Bd.bytes
  have hml : c.maxLocals = 1 := hml0
  have hown : s.vm.findClass "com/example/clockwright/clockwright/mcmc/AcceptanceCountPinLaw" = some m.cls := findClass_of_methodNamed Bd.named
  have hnm := (name_of_methodNamed Bd.named Bd.method).1
  have X0 : Stand p l e ({ frames := 0, cells := 0, slots := 0, locals := 0 } : Room) s m #[(.int p1)] below meth c s₁ [] 0 0 := Stand.of_body Bd
  have e0 : s₁.heap = h0 := by rw [← hh, Bd.state]; rfl
  have N0 := Fr.nil n0
  have pre0 : ∀ t, Steps p.tables e below (s₁.setTop (mkF m 0 #[iv p1] [])) t → Steps p.tables e below (s₁.setTop (entryFrame m #[(.int p1)] 1)) t := fun t k => castTop (ef_6 m p1) k
  have pre2 : ∀ t, own_S p e below s₁ m 1 #[iv p1] [(.int p1)] t → Steps p.tables e below (s₁.setTop (entryFrame m #[(.int p1)] 1)) t := fun t k => pre0 t (by
    show own_S p e below s₁ m 0 #[iv p1] [] _
    refine XS.iloadN X0.here hx rfl (hb hby d6_0) rfl ?_
    exact k)
  by_cases hc1_1 : p1 = (0 : Int32)
  ·  -- pc 1 yes
    have pre3 : ∀ t, own_S p e below s₁ m 9 #[iv p1] [(.long (0 : Int64))] t → Steps p.tables e below (s₁.setTop (entryFrame m #[(.int p1)] 1)) t := fun t k => pre2 t (by
      show own_S p e below s₁ m 1 #[iv p1] [(.int p1)] _
      refine XS.ifYes X0.here hx rfl (pc0 := 1) (pc' := 8) rfl (hb hby d6_1) rfl ((if0 _ _).trans (teq hc1_1).1) (by decide) (by decide) ?_
      show own_S p e below s₁ m 8 #[iv p1] [] _
      refine XS.lconst X0.here hx rfl (hb hby d6_8) ?_
      exact k)
    obtain ⟨fs, hr, hrun, hended, hW, hsame⟩ := X0.leave (v := some (.long (0 : Int64))) (fun h => by rw [Bd.returns] at h; cases h)
    refine ⟨_, _, pre3 _ ?_, hrun, hended, _, _, rfl, ?_, ⟨_, rfl⟩, hW, hsame.mono (by decide) (by decide)⟩
    · show own_S p e below s₁ m 9 #[iv p1] [(.long (0 : Int64))] _
      jvm_step X0.here [X0.here.top, hx, (hb hby d6_9), X0.method', Bd.returns, narrow]
      first | (intro acts; rw [hr _ acts rfl rfl rfl]) | rw [hr _ _ rfl rfl rfl]
      exact Steps.refl _
    · show Q6 Z p1 h0 n0 _ s₁.heap _
      rw [e0]
      exact ⟨by simp [own_one, hc1_1], N0, rfl⟩
  ·  -- pc 1 no
    have pre4 : ∀ t, own_S p e below s₁ m 9 #[iv p1] [(.long (1 : Int64))] t → Steps p.tables e below (s₁.setTop (entryFrame m #[(.int p1)] 1)) t := fun t k => pre2 t (by
      show own_S p e below s₁ m 1 #[iv p1] [(.int p1)] _
      refine XS.ifNo X0.here hx rfl (hb hby d6_1) rfl ((if0 _ _).trans (feq hc1_1).1) ?_
      show own_S p e below s₁ m 4 #[iv p1] [] _
      refine XS.lconst X0.here hx rfl (hb hby d6_4) ?_
      show own_S p e below s₁ m 5 #[iv p1] [(.long (1 : Int64))] _
      refine XS.goto X0.here hx rfl (pc0 := 5) (pc' := 9) rfl (hb hby d6_5) (by decide) (by decide) ?_
      exact k)
    obtain ⟨fs, hr, hrun, hended, hW, hsame⟩ := X0.leave (v := some (.long (1 : Int64))) (fun h => by rw [Bd.returns] at h; cases h)
    refine ⟨_, _, pre4 _ ?_, hrun, hended, _, _, rfl, ?_, ⟨_, rfl⟩, hW, hsame.mono (by decide) (by decide)⟩
    · show own_S p e below s₁ m 9 #[iv p1] [(.long (1 : Int64))] _
      jvm_step X0.here [X0.here.top, hx, (hb hby d6_9), X0.method', Bd.returns, narrow]
      first | (intro acts; rw [hr _ acts rfl rfl rfl]) | rw [hr _ _ rfl rfl rfl]
      exact Steps.refl _
    · show Q6 Z p1 h0 n0 _ s₁.heap _
      rw [e0]
      exact ⟨by simp [own_one, hc1_1], N0, rfl⟩
theorem ef_0 (m : MethodId) (p1 : Int32) : entryFrame m #[(.int p1)] maxLocals = mkF m 0 #[iv p1, .unset, .unset, .unset, .unset, .unset] [] := by first | (simp [entryFrame, mkF, argsToLocals, Value.category, maxLocals]; done) | rfl
def Q0 (Z : State) (p1 : Int32) (h0 : Heap) (n0 : Nat) (v : Option Value) (h : Heap) (L : List Loc) : Prop := v = some (.int 1) ∧ Fr n0 L
theorem pd_0 : parseMethodDescriptor "()V" = some ⟨[], none⟩ := by decide +kernel
theorem pd_1 : parseMethodDescriptor "(Z)V" = some ⟨[.boolean], none⟩ := by decide +kernel
theorem pd_2 : parseMethodDescriptor "()J" = some ⟨[], some .long⟩ := by decide +kernel
theorem pd_3 : parseMethodDescriptor "(Z)J" = some ⟨[.boolean], some .long⟩ := by decide +kernel
set_option maxRecDepth 65536 in
set_option maxHeartbeats 40000000 in
theorem rm0 (l : Launch) (Z : State) (a0 : Array Value) (hw : ∀ d ∈ tables_1, d.before a0 Z = true) (ws : List Jvm.Cond) (p1 : Int32) (h0 : Heap) (n0 : Nat) (Z0 : n0 ≤ h0.size)  :
    MetFree l x (head1 (Jvm.Cond.code x code maxLocals ret :: ws) room_1) (fun a U => a = #[(.int p1)] ∧ Z.Warmed39 U.vm ∧ U.heap = h0) (fun _ _ _ _ _ => True) (fun _ U o U' => ∃ v L, o = .returned v ∧ Q0 Z p1 h0 n0 v U'.heap L ∧ FrameEnd U o U' L room_1.cells room_1.slots) := by
  refine MetFree.of_bodySF (plainFor_of_name pn_1) hisR ?_
  intro p e s m args below meth c s₁ Bd hml0 hP hK
  obtain ⟨rfl, hZ, hh⟩ := hP
  have hx := Bd.exec
  have hby := Bd.bytes
  have hml : c.maxLocals = 6 := hml0
  have hown : s.vm.findClass "com/example/clockwright/clockwright/mcmc/AcceptanceCountPinLaw" = some m.cls := findClass_of_methodNamed Bd.named
  have hnm := (name_of_methodNamed Bd.named Bd.method).1
  have X0 : Stand p l e room_1 s m #[(.int p1)] below meth c s₁ [] 0 0 := Stand.of_body Bd
  have e0 : s₁.heap = h0 := by rw [← hh, Bd.state]; rfl
  have N0 := Fr.nil n0
  have pre0 : ∀ t, Steps p.tables e below (s₁.setTop (mkF m 0 #[iv p1, .unset, .unset, .unset, .unset, .unset] [])) t → Steps p.tables e below (s₁.setTop (entryFrame m #[(.int p1)] maxLocals)) t := fun t k => castTop (ef_0 m p1) k
  obtain ⟨b0, h_b0, prej1⟩ : ∃ b0 : Int32, (True) ∧ ∀ t, own_S p e below s₁ m 11 #[iv p1, .unset, .unset, .unset, .unset, .unset] [(.int b0)] t → Steps p.tables e below (s₁.setTop (entryFrame m #[(.int p1)] maxLocals)) t := by
    have pre3 : ∀ t, own_S p e below s₁ m 3 #[iv p1, .unset, .unset, .unset, .unset, .unset] [(.int (p1 &&& (1 : Int32)))] t → Steps p.tables e below (s₁.setTop (entryFrame m #[(.int p1)] maxLocals)) t := fun t k => pre0 t (by
      show own_S p e below s₁ m 0 #[iv p1, .unset, .unset, .unset, .unset, .unset] [] _
      refine XS.iloadN X0.here hx rfl (hb hby at_0) rfl ?_
      show own_S p e below s₁ m 1 #[iv p1, .unset, .unset, .unset, .unset, .unset] [(.int p1)] _
      refine XS.iconst X0.here hx rfl (hb hby at_1) ?_
      show own_S p e below s₁ m 2 #[iv p1, .unset, .unset, .unset, .unset, .unset] [(.int (1 : Int32)), (.int p1)] _
      refine XS.iand X0.here hx rfl (hb hby at_2) rfl ?_
      exact k)
    by_cases hc3_2 : (p1 &&& (1 : Int32)) = (0 : Int32)
    ·  -- pc 3 yes
      have pre4 : ∀ t, own_S p e below s₁ m 11 #[iv p1, .unset, .unset, .unset, .unset, .unset] [(.int (0 : Int32))] t → Steps p.tables e below (s₁.setTop (entryFrame m #[(.int p1)] maxLocals)) t := fun t k => pre3 t (by
        show own_S p e below s₁ m 3 #[iv p1, .unset, .unset, .unset, .unset, .unset] [(.int (p1 &&& (1 : Int32)))] _
        refine XS.ifYes X0.here hx rfl (pc0 := 3) (pc' := 10) rfl (hb hby at_3) rfl ((if0 _ _).trans (teq hc3_2).1) (by decide) (by decide) ?_
        show own_S p e below s₁ m 10 #[iv p1, .unset, .unset, .unset, .unset, .unset] [] _
        refine XS.iconst X0.here hx rfl (hb hby at_10) ?_
        exact k)
      exact ⟨(0 : Int32), trivial, pre4⟩
    ·  -- pc 3 no
      have pre5 : ∀ t, own_S p e below s₁ m 11 #[iv p1, .unset, .unset, .unset, .unset, .unset] [(.int (1 : Int32))] t → Steps p.tables e below (s₁.setTop (entryFrame m #[(.int p1)] maxLocals)) t := fun t k => pre3 t (by
        show own_S p e below s₁ m 3 #[iv p1, .unset, .unset, .unset, .unset, .unset] [(.int (p1 &&& (1 : Int32)))] _
        refine XS.ifNo X0.here hx rfl (hb hby at_3) rfl ((if0 _ _).trans (feq hc3_2).1) ?_
        show own_S p e below s₁ m 6 #[iv p1, .unset, .unset, .unset, .unset, .unset] [] _
        refine XS.iconst X0.here hx rfl (hb hby at_6) ?_
        show own_S p e below s₁ m 7 #[iv p1, .unset, .unset, .unset, .unset, .unset] [(.int (1 : Int32))] _
        refine XS.goto X0.here hx rfl (pc0 := 7) (pc' := 11) rfl (hb hby at_7) (by decide) (by decide) ?_
        exact k)
      exact ⟨(1 : Int32), trivial, pre5⟩
  obtain ⟨b1, h_b1, prej6⟩ : ∃ b1 : Int32, (True) ∧ ∀ t, own_S p e below s₁ m 23 #[iv p1, iv b0, .unset, .unset, .unset, .unset] [(.int b1)] t → Steps p.tables e below (s₁.setTop (entryFrame m #[(.int p1)] maxLocals)) t := by
    have pre8 : ∀ t, own_S p e below s₁ m 15 #[iv p1, iv b0, .unset, .unset, .unset, .unset] [(.int (p1 &&& (2 : Int32)))] t → Steps p.tables e below (s₁.setTop (entryFrame m #[(.int p1)] maxLocals)) t := fun t k => prej1 t (by
      show own_S p e below s₁ m 11 #[iv p1, .unset, .unset, .unset, .unset, .unset] [(.int b0)] _
      refine XS.istoreN X0.here hx rfl (hb hby at_11) rfl (l' := #[iv p1, iv b0, .unset, .unset, .unset, .unset]) rfl ?_
      show own_S p e below s₁ m 12 #[iv p1, iv b0, .unset, .unset, .unset, .unset] [] _
      refine XS.iloadN X0.here hx rfl (hb hby at_12) rfl ?_
      show own_S p e below s₁ m 13 #[iv p1, iv b0, .unset, .unset, .unset, .unset] [(.int p1)] _
      refine XS.iconst X0.here hx rfl (hb hby at_13) ?_
      show own_S p e below s₁ m 14 #[iv p1, iv b0, .unset, .unset, .unset, .unset] [(.int (2 : Int32)), (.int p1)] _
      refine XS.iand X0.here hx rfl (hb hby at_14) rfl ?_
      exact k)
    by_cases hc15_7 : (p1 &&& (2 : Int32)) = (0 : Int32)
    ·  -- pc 15 yes
      have pre9 : ∀ t, own_S p e below s₁ m 23 #[iv p1, iv b0, .unset, .unset, .unset, .unset] [(.int (0 : Int32))] t → Steps p.tables e below (s₁.setTop (entryFrame m #[(.int p1)] maxLocals)) t := fun t k => pre8 t (by
        show own_S p e below s₁ m 15 #[iv p1, iv b0, .unset, .unset, .unset, .unset] [(.int (p1 &&& (2 : Int32)))] _
        refine XS.ifYes X0.here hx rfl (pc0 := 15) (pc' := 22) rfl (hb hby at_15) rfl ((if0 _ _).trans (teq hc15_7).1) (by decide) (by decide) ?_
        show own_S p e below s₁ m 22 #[iv p1, iv b0, .unset, .unset, .unset, .unset] [] _
        refine XS.iconst X0.here hx rfl (hb hby at_22) ?_
        exact k)
      exact ⟨(0 : Int32), trivial, pre9⟩
    ·  -- pc 15 no
      have pre10 : ∀ t, own_S p e below s₁ m 23 #[iv p1, iv b0, .unset, .unset, .unset, .unset] [(.int (1 : Int32))] t → Steps p.tables e below (s₁.setTop (entryFrame m #[(.int p1)] maxLocals)) t := fun t k => pre8 t (by
        show own_S p e below s₁ m 15 #[iv p1, iv b0, .unset, .unset, .unset, .unset] [(.int (p1 &&& (2 : Int32)))] _
        refine XS.ifNo X0.here hx rfl (hb hby at_15) rfl ((if0 _ _).trans (feq hc15_7).1) ?_
        show own_S p e below s₁ m 18 #[iv p1, iv b0, .unset, .unset, .unset, .unset] [] _
        refine XS.iconst X0.here hx rfl (hb hby at_18) ?_
        show own_S p e below s₁ m 19 #[iv p1, iv b0, .unset, .unset, .unset, .unset] [(.int (1 : Int32))] _
        refine XS.goto X0.here hx rfl (pc0 := 19) (pc' := 23) rfl (hb hby at_19) (by decide) (by decide) ?_
        exact k)
      exact ⟨(1 : Int32), trivial, pre10⟩
  obtain ⟨b2, h_b2, prej11⟩ : ∃ b2 : Int32, (True) ∧ ∀ t, own_S p e below s₁ m 35 #[iv p1, iv b0, iv b1, .unset, .unset, .unset] [(.int b2)] t → Steps p.tables e below (s₁.setTop (entryFrame m #[(.int p1)] maxLocals)) t := by
    have pre13 : ∀ t, own_S p e below s₁ m 27 #[iv p1, iv b0, iv b1, .unset, .unset, .unset] [(.int (p1 &&& (4 : Int32)))] t → Steps p.tables e below (s₁.setTop (entryFrame m #[(.int p1)] maxLocals)) t := fun t k => prej6 t (by
      show own_S p e below s₁ m 23 #[iv p1, iv b0, .unset, .unset, .unset, .unset] [(.int b1)] _
      refine XS.istoreN X0.here hx rfl (hb hby at_23) rfl (l' := #[iv p1, iv b0, iv b1, .unset, .unset, .unset]) rfl ?_
      show own_S p e below s₁ m 24 #[iv p1, iv b0, iv b1, .unset, .unset, .unset] [] _
      refine XS.iloadN X0.here hx rfl (hb hby at_24) rfl ?_
      show own_S p e below s₁ m 25 #[iv p1, iv b0, iv b1, .unset, .unset, .unset] [(.int p1)] _
      refine XS.iconst X0.here hx rfl (hb hby at_25) ?_
      show own_S p e below s₁ m 26 #[iv p1, iv b0, iv b1, .unset, .unset, .unset] [(.int (4 : Int32)), (.int p1)] _
      refine XS.iand X0.here hx rfl (hb hby at_26) rfl ?_
      exact k)
    by_cases hc27_12 : (p1 &&& (4 : Int32)) = (0 : Int32)
    ·  -- pc 27 yes
      have pre14 : ∀ t, own_S p e below s₁ m 35 #[iv p1, iv b0, iv b1, .unset, .unset, .unset] [(.int (0 : Int32))] t → Steps p.tables e below (s₁.setTop (entryFrame m #[(.int p1)] maxLocals)) t := fun t k => pre13 t (by
        show own_S p e below s₁ m 27 #[iv p1, iv b0, iv b1, .unset, .unset, .unset] [(.int (p1 &&& (4 : Int32)))] _
        refine XS.ifYes X0.here hx rfl (pc0 := 27) (pc' := 34) rfl (hb hby at_27) rfl ((if0 _ _).trans (teq hc27_12).1) (by decide) (by decide) ?_
        show own_S p e below s₁ m 34 #[iv p1, iv b0, iv b1, .unset, .unset, .unset] [] _
        refine XS.iconst X0.here hx rfl (hb hby at_34) ?_
        exact k)
      exact ⟨(0 : Int32), trivial, pre14⟩
    ·  -- pc 27 no
      have pre15 : ∀ t, own_S p e below s₁ m 35 #[iv p1, iv b0, iv b1, .unset, .unset, .unset] [(.int (1 : Int32))] t → Steps p.tables e below (s₁.setTop (entryFrame m #[(.int p1)] maxLocals)) t := fun t k => pre13 t (by
        show own_S p e below s₁ m 27 #[iv p1, iv b0, iv b1, .unset, .unset, .unset] [(.int (p1 &&& (4 : Int32)))] _
        refine XS.ifNo X0.here hx rfl (hb hby at_27) rfl ((if0 _ _).trans (feq hc27_12).1) ?_
        show own_S p e below s₁ m 30 #[iv p1, iv b0, iv b1, .unset, .unset, .unset] [] _
        refine XS.iconst X0.here hx rfl (hb hby at_30) ?_
        show own_S p e below s₁ m 31 #[iv p1, iv b0, iv b1, .unset, .unset, .unset] [(.int (1 : Int32))] _
        refine XS.goto X0.here hx rfl (pc0 := 31) (pc' := 35) rfl (hb hby at_31) (by decide) (by decide) ?_
        exact k)
      exact ⟨(1 : Int32), trivial, pre15⟩
  obtain ⟨T16, h16, X16, e16, E16, A16, D16, -, st16⟩ := newO X0 hx hZ hown (hw _ (List.mem_of_getElem? (i := 0) rfl)) (hw _ (List.mem_of_getElem? (i := 1) rfl)) (hw _ (List.mem_of_getElem? (i := 2) rfl)) e0 (g := (mkF m 36 #[iv p1, iv b0, iv b1, iv b2, .unset, .unset] [])) rfl (hb hby at_36) (by decide) (by decide)
  obtain ⟨b16, g16⟩ : ∃ z, z = h0.size := ⟨_, rfl⟩
  rw [← g16] at A16 D16 st16
  have g_b16 : n0 ≤ b16 := Nat.le_trans Z0 (Nat.le_of_eq g16.symm)
  have sz_b16 : h0.size ≤ b16 := Nat.le_trans ((Keep.refl h0 [])).1 (Nat.le_of_eq g16.symm)
  have F_proposals_b16 : Fld Z h16 b16 "com/example/clockwright/clockwright/mcmc/Acceptance" "proposals" "J" (.long (0 : Int64)) := D16 (Or.inl (hw _ (List.mem_of_getElem? (i := 15) rfl))) (ty := .long) (by decide)
  have F_accepted_b16 : Fld Z h16 b16 "com/example/clockwright/clockwright/mcmc/Acceptance" "accepted" "J" (.long (0 : Int64)) := D16 (Or.inl (hw _ (List.mem_of_getElem? (i := 27) rfl))) (ty := .long) (by decide)
  have Zs18 : n0 ≤ h16.size := (Nat.le_trans Z0 E16.1)
  obtain ⟨_, _, ⟨T17, L17, k17, n17⟩, -, X17, ⟨Lc17, hQ17, l17, y17, z17⟩, st17⟩ := X16.specialBack hx (y := (⟨"com/example/clockwright/clockwright/mcmc/Acceptance", "<init>", "()V"⟩ : MethodName)) rfl hown (mvT hZ (hw _ (List.mem_of_getElem? (i := 3) rfl))) (mvT hZ (hw _ (List.mem_of_getElem? (i := 4) rfl))) (mvT hZ (hw _ (List.mem_of_getElem? (i := 5) rfl))) (by decide) (backOf (W := 1) (rm1 l Z a0 hw [] b16 h16 n0 Zs18 ) hZ (hw _ (List.mem_of_getElem? (i := 5) rfl)) (hw _ (List.mem_of_getElem? (i := 2) rfl)) (by decide) (by decide)) (g := (mkF m 40 #[iv p1, iv b0, iv b1, iv b2, .unset, .unset] [(.ref b16), (.ref b16)])) rfl (by rw [hml]; rfl) (Steps.refl _) (a := b16) (argsL := []) (rest := [(.ref b16)]) (lenOf pd_0 rfl) rfl (by show 2 * 0 + _ ≤ _; exact Nat.le_of_eq rfl) (hb hby at_40) (fun _ _ => ⟨rfl, e16, (by decide : 1 + 0 ≤ _), (by decide : 2 + 0 ≤ _)⟩)
  dsimp only [Pt.U, Pt.locs, Pt.cells, Pt.slots] at X17 l17 y17 z17 st17 hQ17
  subst l17 y17 z17
  obtain ⟨rfl, N17q, e17q⟩ := hQ17
  have N17 := Fr.app N0 N17q
  have e17 : T17.heap = h16 := e17q
  obtain ⟨cq19, kq19, q19a, q19b, q19c⟩ := isOf hZ e17 A16
  obtain ⟨_, _, ⟨T19, L19, k19, n19⟩, -, X19, ⟨Lc19, hQ19, l19, y19, z19⟩, st19⟩ := X17.virtualBack hx (y := (⟨"com/example/clockwright/clockwright/mcmc/Acceptance", "count", "(Z)V"⟩ : MethodName)) (z := (⟨"com/example/clockwright/clockwright/mcmc/Acceptance", "count", "(Z)V"⟩ : MethodName)) hown (mvT hZ (hw _ (List.mem_of_getElem? (i := 9) rfl))) (mvT hZ (hw _ (List.mem_of_getElem? (i := 10) rfl))) (notFace_of_selects (args := #[]) (mvT hZ (hw _ (List.mem_of_getElem? (i := 12) rfl)))) (mvT hZ (hw _ (List.mem_of_getElem? (i := 12) rfl))) (mvT hZ (hw _ (List.mem_of_getElem? (i := 11) rfl))) (by decide) (backOf (W := 0) (rm3 l Z a0 hw [] b16 b0 (0 : Int64) (0 : Int64) h16 n0 Zs18 A16 g_b16 F_proposals_b16 F_accepted_b16) hZ (hw _ (List.mem_of_getElem? (i := 13) rfl)) (hw _ (List.mem_of_getElem? (i := 2) rfl)) (by decide) (by decide)) q19a q19c (g := (mkF m 48 #[iv p1, iv b0, iv b1, iv b2, rv b16, .unset] [(.int b0), (.ref b16)])) rfl (by rw [hml]; rfl) (Steps.refl _) (argsL := [(.int b0)]) (rest := []) (lenOf pd_1 rfl) rfl (by show 2 * 0 + _ ≤ _; exact Nat.le_of_eq rfl) (hb hby at_48) (fun _ _ => ⟨rfl, e17, (by decide : 1 + 0 ≤ _), (by decide : 2 + 0 ≤ _)⟩)
  dsimp only [Pt.U, Pt.locs, Pt.cells, Pt.slots] at X19 l19 y19 z19 st19 hQ19
  subst l19 y19 z19
  obtain ⟨rfl, N19q, K19, E19c, Fp19, Fa19⟩ := hQ19
  have N19 := Fr.app N17 N19q
  have Zs21 : n0 ≤ T19.heap.size := (Nat.le_trans Zs18 K19.1)
  obtain ⟨cq20, kq20, q20a, q20b, q20c⟩ := isOf hZ rfl E19c
  obtain ⟨_, _, ⟨T20, L20, k20, n20⟩, -, X20, ⟨Lc20, hQ20, l20, y20, z20⟩, st20⟩ := X19.virtualBack hx (y := (⟨"com/example/clockwright/clockwright/mcmc/Acceptance", "proposals", "()J"⟩ : MethodName)) (z := (⟨"com/example/clockwright/clockwright/mcmc/Acceptance", "proposals", "()J"⟩ : MethodName)) hown (mvT hZ (hw _ (List.mem_of_getElem? (i := 16) rfl))) (mvT hZ (hw _ (List.mem_of_getElem? (i := 17) rfl))) (notFace_of_selects (args := #[]) (mvT hZ (hw _ (List.mem_of_getElem? (i := 19) rfl)))) (mvT hZ (hw _ (List.mem_of_getElem? (i := 19) rfl))) (mvT hZ (hw _ (List.mem_of_getElem? (i := 18) rfl))) (by decide) (backOf (W := 0) (rm4 l Z a0 hw [] b16 ((0 : Int64) + (1 : Int64)) T19.heap n0 Zs21 Fp19) hZ (hw _ (List.mem_of_getElem? (i := 20) rfl)) (hw _ (List.mem_of_getElem? (i := 2) rfl)) (by decide) (by decide)) q20a q20c (g := (mkF m 53 #[iv p1, iv b0, iv b1, iv b2, rv b16, .unset] [(.ref b16)])) rfl (by rw [hml]; rfl) (Steps.refl _) (argsL := []) (rest := []) (lenOf pd_2 rfl) rfl (by show 2 * 0 + _ ≤ _; exact Nat.le_of_eq rfl) (hb hby at_53) (fun _ _ => ⟨rfl, rfl, (by decide : 1 + 0 ≤ _), (by decide : 2 + 0 ≤ _)⟩)
  dsimp only [Pt.U, Pt.locs, Pt.cells, Pt.slots] at X20 l20 y20 z20 st20 hQ20
  subst l20 y20 z20
  obtain ⟨rfl, N20q, e20q⟩ := hQ20
  have N20 := Fr.app N19 N20q
  have e20 : T20.heap = T19.heap := e20q
  obtain ⟨cq22, kq22, q22a, q22b, q22c⟩ := isOf hZ e20 E19c
  obtain ⟨_, _, ⟨T22, L22, k22, n22⟩, -, X22, ⟨Lc22, hQ22, l22, y22, z22⟩, st22⟩ := X20.virtualBack hx (y := (⟨"com/example/clockwright/clockwright/mcmc/Acceptance", "accepted", "()J"⟩ : MethodName)) (z := (⟨"com/example/clockwright/clockwright/mcmc/Acceptance", "accepted", "()J"⟩ : MethodName)) hown (mvT hZ (hw _ (List.mem_of_getElem? (i := 21) rfl))) (mvT hZ (hw _ (List.mem_of_getElem? (i := 22) rfl))) (notFace_of_selects (args := #[]) (mvT hZ (hw _ (List.mem_of_getElem? (i := 24) rfl)))) (mvT hZ (hw _ (List.mem_of_getElem? (i := 24) rfl))) (mvT hZ (hw _ (List.mem_of_getElem? (i := 23) rfl))) (by decide) (backOf (W := 0) (rm5 l Z a0 hw [] b16 ((0 : Int64) + own_one b0) T19.heap n0 Zs21 Fa19) hZ (hw _ (List.mem_of_getElem? (i := 25) rfl)) (hw _ (List.mem_of_getElem? (i := 2) rfl)) (by decide) (by decide)) q22a q22c (g := (mkF m 63 #[iv p1, iv b0, iv b1, iv b2, rv b16, .unset] [(.ref b16)])) rfl (by rw [hml]; rfl) (Steps.refl _) (argsL := []) (rest := []) (lenOf pd_2 rfl) rfl (by show 2 * 0 + _ ≤ _; exact Nat.le_of_eq rfl) (hb hby at_63) (fun _ _ => ⟨rfl, e20, (by decide : 1 + 0 ≤ _), (by decide : 2 + 0 ≤ _)⟩)
  dsimp only [Pt.U, Pt.locs, Pt.cells, Pt.slots] at X22 l22 y22 z22 st22 hQ22
  subst l22 y22 z22
  obtain ⟨rfl, N22q, e22q⟩ := hQ22
  have N22 := Fr.app N20 N22q
  have e22 : T22.heap = T19.heap := e22q
  obtain ⟨_, _, ⟨T23, L23, k23, n23⟩, -, X23, ⟨Lc23, hQ23, l23, y23, z23⟩, st23⟩ := Jvm.LawKit.callS X22 hx (y := (⟨"com/example/clockwright/clockwright/mcmc/AcceptanceCountPinLaw", "one", "(Z)J"⟩ : MethodName)) hown (mvT hZ (hw _ (List.mem_of_getElem? (i := 28) rfl))) (mvT hZ (hw _ (List.mem_of_getElem? (i := 29) rfl))) (mvT hZ (hw _ (List.mem_of_getElem? (i := 30) rfl))) (mvT hZ (hw _ (List.mem_of_getElem? (i := 31) rfl))) (by decide) (backOf (W := 2) (rm6 l Z a0 hw [] b0 T19.heap n0 Zs21 ) hZ (hw _ (List.mem_of_getElem? (i := 31) rfl)) (hw _ (List.mem_of_getElem? (i := 30) rfl)) (by decide) (by decide)) (g := (mkF m 67 #[iv p1, iv b0, iv b1, iv b2, rv b16, .unset] [(.int b0), (.long ((0 : Int64) + own_one b0))])) rfl (by rw [hml]; rfl) (argsL := [(.int b0)]) (rest := [(.long ((0 : Int64) + own_one b0))]) (lenOf pd_3 rfl) rfl (by show 2 * 0 + _ ≤ _; exact Nat.le_of_eq rfl) (hb hby at_67) (fun _ _ => ⟨rfl, e22, (by decide : 1 + 0 ≤ _), (by decide : 2 + 0 ≤ _)⟩)
  dsimp only [Pt.U, Pt.locs, Pt.cells, Pt.slots] at X23 l23 y23 z23 st23 hQ23
  subst l23 y23 z23
  obtain ⟨rfl, N23q, e23q⟩ := hQ23
  have N23 := Fr.app N22 N23q
  have e23 : T23.heap = T19.heap := e23q
  obtain ⟨cq24, kq24, q24a, q24b, q24c⟩ := isOf hZ e23 E19c
  obtain ⟨_, _, ⟨T24, L24, k24, n24⟩, -, X24, ⟨Lc24, hQ24, l24, y24, z24⟩, st24⟩ := X23.virtualBack hx (y := (⟨"com/example/clockwright/clockwright/mcmc/Acceptance", "count", "(Z)V"⟩ : MethodName)) (z := (⟨"com/example/clockwright/clockwright/mcmc/Acceptance", "count", "(Z)V"⟩ : MethodName)) hown (mvT hZ (hw _ (List.mem_of_getElem? (i := 9) rfl))) (mvT hZ (hw _ (List.mem_of_getElem? (i := 10) rfl))) (notFace_of_selects (args := #[]) (mvT hZ (hw _ (List.mem_of_getElem? (i := 12) rfl)))) (mvT hZ (hw _ (List.mem_of_getElem? (i := 12) rfl))) (mvT hZ (hw _ (List.mem_of_getElem? (i := 11) rfl))) (by decide) (backOf (W := 0) (rm3 l Z a0 hw [] b16 b1 ((0 : Int64) + (1 : Int64)) ((0 : Int64) + own_one b0) T19.heap n0 Zs21 E19c g_b16 Fp19 Fa19) hZ (hw _ (List.mem_of_getElem? (i := 13) rfl)) (hw _ (List.mem_of_getElem? (i := 2) rfl)) (by decide) (by decide)) q24a q24c (g := (mkF m 84 #[iv p1, iv b0, iv b1, iv b2, rv b16, iv (1 : Int32)] [(.int b1), (.ref b16)])) rfl (by rw [hml]; rfl) (Steps.refl _) (argsL := [(.int b1)]) (rest := []) (lenOf pd_1 rfl) rfl (by show 2 * 0 + _ ≤ _; exact Nat.le_of_eq rfl) (hb hby at_84) (fun _ _ => ⟨rfl, e23, (by decide : 1 + 0 ≤ _), (by decide : 2 + 0 ≤ _)⟩)
  dsimp only [Pt.U, Pt.locs, Pt.cells, Pt.slots] at X24 l24 y24 z24 st24 hQ24
  subst l24 y24 z24
  obtain ⟨rfl, N24q, K24, E24c, Fp24, Fa24⟩ := hQ24
  have N24 := Fr.app N23 N24q
  have Zs26 : n0 ≤ T24.heap.size := (Nat.le_trans Zs21 K24.1)
  obtain ⟨cq25, kq25, q25a, q25b, q25c⟩ := isOf hZ rfl E24c
  obtain ⟨_, _, ⟨T25, L25, k25, n25⟩, -, X25, ⟨Lc25, hQ25, l25, y25, z25⟩, st25⟩ := X24.virtualBack hx (y := (⟨"com/example/clockwright/clockwright/mcmc/Acceptance", "proposals", "()J"⟩ : MethodName)) (z := (⟨"com/example/clockwright/clockwright/mcmc/Acceptance", "proposals", "()J"⟩ : MethodName)) hown (mvT hZ (hw _ (List.mem_of_getElem? (i := 16) rfl))) (mvT hZ (hw _ (List.mem_of_getElem? (i := 17) rfl))) (notFace_of_selects (args := #[]) (mvT hZ (hw _ (List.mem_of_getElem? (i := 19) rfl)))) (mvT hZ (hw _ (List.mem_of_getElem? (i := 19) rfl))) (mvT hZ (hw _ (List.mem_of_getElem? (i := 18) rfl))) (by decide) (backOf (W := 0) (rm4 l Z a0 hw [] b16 (((0 : Int64) + (1 : Int64)) + (1 : Int64)) T24.heap n0 Zs26 Fp24) hZ (hw _ (List.mem_of_getElem? (i := 20) rfl)) (hw _ (List.mem_of_getElem? (i := 2) rfl)) (by decide) (by decide)) q25a q25c (g := (mkF m 94 #[iv p1, iv b0, iv b1, iv b2, rv b16, iv (1 : Int32)] [(.ref b16)])) rfl (by rw [hml]; rfl) (Steps.refl _) (argsL := []) (rest := []) (lenOf pd_2 rfl) rfl (by show 2 * 0 + _ ≤ _; exact Nat.le_of_eq rfl) (hb hby at_94) (fun _ _ => ⟨rfl, rfl, (by decide : 1 + 0 ≤ _), (by decide : 2 + 0 ≤ _)⟩)
  dsimp only [Pt.U, Pt.locs, Pt.cells, Pt.slots] at X25 l25 y25 z25 st25 hQ25
  subst l25 y25 z25
  obtain ⟨rfl, N25q, e25q⟩ := hQ25
  have N25 := Fr.app N24 N25q
  have e25 : T25.heap = T24.heap := e25q
  obtain ⟨cq27, kq27, q27a, q27b, q27c⟩ := isOf hZ e25 E24c
  obtain ⟨_, _, ⟨T27, L27, k27, n27⟩, -, X27, ⟨Lc27, hQ27, l27, y27, z27⟩, st27⟩ := X25.virtualBack hx (y := (⟨"com/example/clockwright/clockwright/mcmc/Acceptance", "accepted", "()J"⟩ : MethodName)) (z := (⟨"com/example/clockwright/clockwright/mcmc/Acceptance", "accepted", "()J"⟩ : MethodName)) hown (mvT hZ (hw _ (List.mem_of_getElem? (i := 21) rfl))) (mvT hZ (hw _ (List.mem_of_getElem? (i := 22) rfl))) (notFace_of_selects (args := #[]) (mvT hZ (hw _ (List.mem_of_getElem? (i := 24) rfl)))) (mvT hZ (hw _ (List.mem_of_getElem? (i := 24) rfl))) (mvT hZ (hw _ (List.mem_of_getElem? (i := 23) rfl))) (by decide) (backOf (W := 0) (rm5 l Z a0 hw [] b16 (((0 : Int64) + own_one b0) + own_one b1) T24.heap n0 Zs26 Fa24) hZ (hw _ (List.mem_of_getElem? (i := 25) rfl)) (hw _ (List.mem_of_getElem? (i := 2) rfl)) (by decide) (by decide)) q27a q27c (g := (mkF m 106 #[iv p1, iv b0, iv b1, iv b2, rv b16, iv (1 : Int32)] [(.ref b16)])) rfl (by rw [hml]; rfl) (Steps.refl _) (argsL := []) (rest := []) (lenOf pd_2 rfl) rfl (by show 2 * 0 + _ ≤ _; exact Nat.le_of_eq rfl) (hb hby at_106) (fun _ _ => ⟨rfl, e25, (by decide : 1 + 0 ≤ _), (by decide : 2 + 0 ≤ _)⟩)
  dsimp only [Pt.U, Pt.locs, Pt.cells, Pt.slots] at X27 l27 y27 z27 st27 hQ27
  subst l27 y27 z27
  obtain ⟨rfl, N27q, e27q⟩ := hQ27
  have N27 := Fr.app N25 N27q
  have e27 : T27.heap = T24.heap := e27q
  obtain ⟨_, _, ⟨T28, L28, k28, n28⟩, -, X28, ⟨Lc28, hQ28, l28, y28, z28⟩, st28⟩ := Jvm.LawKit.callS X27 hx (y := (⟨"com/example/clockwright/clockwright/mcmc/AcceptanceCountPinLaw", "one", "(Z)J"⟩ : MethodName)) hown (mvT hZ (hw _ (List.mem_of_getElem? (i := 28) rfl))) (mvT hZ (hw _ (List.mem_of_getElem? (i := 29) rfl))) (mvT hZ (hw _ (List.mem_of_getElem? (i := 30) rfl))) (mvT hZ (hw _ (List.mem_of_getElem? (i := 31) rfl))) (by decide) (backOf (W := 2) (rm6 l Z a0 hw [] b0 T24.heap n0 Zs26 ) hZ (hw _ (List.mem_of_getElem? (i := 31) rfl)) (hw _ (List.mem_of_getElem? (i := 30) rfl)) (by decide) (by decide)) (g := (mkF m 110 #[iv p1, iv b0, iv b1, iv b2, rv b16, iv (1 : Int32)] [(.int b0), (.long (((0 : Int64) + own_one b0) + own_one b1))])) rfl (by rw [hml]; rfl) (argsL := [(.int b0)]) (rest := [(.long (((0 : Int64) + own_one b0) + own_one b1))]) (lenOf pd_3 rfl) rfl (by show 2 * 0 + _ ≤ _; exact Nat.le_of_eq rfl) (hb hby at_110) (fun _ _ => ⟨rfl, e27, (by decide : 1 + 0 ≤ _), (by decide : 2 + 0 ≤ _)⟩)
  dsimp only [Pt.U, Pt.locs, Pt.cells, Pt.slots] at X28 l28 y28 z28 st28 hQ28
  subst l28 y28 z28
  obtain ⟨rfl, N28q, e28q⟩ := hQ28
  have N28 := Fr.app N27 N28q
  have e28 : T28.heap = T24.heap := e28q
  obtain ⟨_, _, ⟨T29, L29, k29, n29⟩, -, X29, ⟨Lc29, hQ29, l29, y29, z29⟩, st29⟩ := Jvm.LawKit.callS X28 hx (y := (⟨"com/example/clockwright/clockwright/mcmc/AcceptanceCountPinLaw", "one", "(Z)J"⟩ : MethodName)) hown (mvT hZ (hw _ (List.mem_of_getElem? (i := 28) rfl))) (mvT hZ (hw _ (List.mem_of_getElem? (i := 29) rfl))) (mvT hZ (hw _ (List.mem_of_getElem? (i := 30) rfl))) (mvT hZ (hw _ (List.mem_of_getElem? (i := 31) rfl))) (by decide) (backOf (W := 4) (rm6 l Z a0 hw [] b1 T24.heap n0 Zs26 ) hZ (hw _ (List.mem_of_getElem? (i := 31) rfl)) (hw _ (List.mem_of_getElem? (i := 30) rfl)) (by decide) (by decide)) (g := (mkF m 114 #[iv p1, iv b0, iv b1, iv b2, rv b16, iv (1 : Int32)] [(.int b1), (.long (own_one b0)), (.long (((0 : Int64) + own_one b0) + own_one b1))])) rfl (by rw [hml]; rfl) (argsL := [(.int b1)]) (rest := [(.long (own_one b0)), (.long (((0 : Int64) + own_one b0) + own_one b1))]) (lenOf pd_3 rfl) rfl (by show 2 * 0 + _ ≤ _; exact Nat.le_of_eq rfl) (hb hby at_114) (fun _ _ => ⟨rfl, e28, (by decide : 1 + 0 ≤ _), (by decide : 2 + 0 ≤ _)⟩)
  dsimp only [Pt.U, Pt.locs, Pt.cells, Pt.slots] at X29 l29 y29 z29 st29 hQ29
  subst l29 y29 z29
  obtain ⟨rfl, N29q, e29q⟩ := hQ29
  have N29 := Fr.app N28 N29q
  have e29 : T29.heap = T24.heap := e29q
  obtain ⟨cq30, kq30, q30a, q30b, q30c⟩ := isOf hZ e29 E24c
  obtain ⟨_, _, ⟨T30, L30, k30, n30⟩, -, X30, ⟨Lc30, hQ30, l30, y30, z30⟩, st30⟩ := X29.virtualBack hx (y := (⟨"com/example/clockwright/clockwright/mcmc/Acceptance", "count", "(Z)V"⟩ : MethodName)) (z := (⟨"com/example/clockwright/clockwright/mcmc/Acceptance", "count", "(Z)V"⟩ : MethodName)) hown (mvT hZ (hw _ (List.mem_of_getElem? (i := 9) rfl))) (mvT hZ (hw _ (List.mem_of_getElem? (i := 10) rfl))) (notFace_of_selects (args := #[]) (mvT hZ (hw _ (List.mem_of_getElem? (i := 12) rfl)))) (mvT hZ (hw _ (List.mem_of_getElem? (i := 12) rfl))) (mvT hZ (hw _ (List.mem_of_getElem? (i := 11) rfl))) (by decide) (backOf (W := 0) (rm3 l Z a0 hw [] b16 b2 (((0 : Int64) + (1 : Int64)) + (1 : Int64)) (((0 : Int64) + own_one b0) + own_one b1) T24.heap n0 Zs26 E24c g_b16 Fp24 Fa24) hZ (hw _ (List.mem_of_getElem? (i := 13) rfl)) (hw _ (List.mem_of_getElem? (i := 2) rfl)) (by decide) (by decide)) q30a q30c (g := (mkF m 132 #[iv p1, iv b0, iv b1, iv b2, rv b16, iv (1 : Int32)] [(.int b2), (.ref b16)])) rfl (by rw [hml]; rfl) (Steps.refl _) (argsL := [(.int b2)]) (rest := []) (lenOf pd_1 rfl) rfl (by show 2 * 0 + _ ≤ _; exact Nat.le_of_eq rfl) (hb hby at_132) (fun _ _ => ⟨rfl, e29, (by decide : 1 + 0 ≤ _), (by decide : 2 + 0 ≤ _)⟩)
  dsimp only [Pt.U, Pt.locs, Pt.cells, Pt.slots] at X30 l30 y30 z30 st30 hQ30
  subst l30 y30 z30
  obtain ⟨rfl, N30q, K30, E30c, Fp30, Fa30⟩ := hQ30
  have N30 := Fr.app N29 N30q
  have Zs32 : n0 ≤ T30.heap.size := (Nat.le_trans Zs26 K30.1)
  obtain ⟨cq31, kq31, q31a, q31b, q31c⟩ := isOf hZ rfl E30c
  obtain ⟨_, _, ⟨T31, L31, k31, n31⟩, -, X31, ⟨Lc31, hQ31, l31, y31, z31⟩, st31⟩ := X30.virtualBack hx (y := (⟨"com/example/clockwright/clockwright/mcmc/Acceptance", "proposals", "()J"⟩ : MethodName)) (z := (⟨"com/example/clockwright/clockwright/mcmc/Acceptance", "proposals", "()J"⟩ : MethodName)) hown (mvT hZ (hw _ (List.mem_of_getElem? (i := 16) rfl))) (mvT hZ (hw _ (List.mem_of_getElem? (i := 17) rfl))) (notFace_of_selects (args := #[]) (mvT hZ (hw _ (List.mem_of_getElem? (i := 19) rfl)))) (mvT hZ (hw _ (List.mem_of_getElem? (i := 19) rfl))) (mvT hZ (hw _ (List.mem_of_getElem? (i := 18) rfl))) (by decide) (backOf (W := 0) (rm4 l Z a0 hw [] b16 ((((0 : Int64) + (1 : Int64)) + (1 : Int64)) + (1 : Int64)) T30.heap n0 Zs32 Fp30) hZ (hw _ (List.mem_of_getElem? (i := 20) rfl)) (hw _ (List.mem_of_getElem? (i := 2) rfl)) (by decide) (by decide)) q31a q31c (g := (mkF m 142 #[iv p1, iv b0, iv b1, iv b2, rv b16, iv (1 : Int32)] [(.ref b16)])) rfl (by rw [hml]; rfl) (Steps.refl _) (argsL := []) (rest := []) (lenOf pd_2 rfl) rfl (by show 2 * 0 + _ ≤ _; exact Nat.le_of_eq rfl) (hb hby at_142) (fun _ _ => ⟨rfl, rfl, (by decide : 1 + 0 ≤ _), (by decide : 2 + 0 ≤ _)⟩)
  dsimp only [Pt.U, Pt.locs, Pt.cells, Pt.slots] at X31 l31 y31 z31 st31 hQ31
  subst l31 y31 z31
  obtain ⟨rfl, N31q, e31q⟩ := hQ31
  have N31 := Fr.app N30 N31q
  have e31 : T31.heap = T30.heap := e31q
  obtain ⟨cq33, kq33, q33a, q33b, q33c⟩ := isOf hZ e31 E30c
  obtain ⟨_, _, ⟨T33, L33, k33, n33⟩, -, X33, ⟨Lc33, hQ33, l33, y33, z33⟩, st33⟩ := X31.virtualBack hx (y := (⟨"com/example/clockwright/clockwright/mcmc/Acceptance", "accepted", "()J"⟩ : MethodName)) (z := (⟨"com/example/clockwright/clockwright/mcmc/Acceptance", "accepted", "()J"⟩ : MethodName)) hown (mvT hZ (hw _ (List.mem_of_getElem? (i := 21) rfl))) (mvT hZ (hw _ (List.mem_of_getElem? (i := 22) rfl))) (notFace_of_selects (args := #[]) (mvT hZ (hw _ (List.mem_of_getElem? (i := 24) rfl)))) (mvT hZ (hw _ (List.mem_of_getElem? (i := 24) rfl))) (mvT hZ (hw _ (List.mem_of_getElem? (i := 23) rfl))) (by decide) (backOf (W := 0) (rm5 l Z a0 hw [] b16 ((((0 : Int64) + own_one b0) + own_one b1) + own_one b2) T30.heap n0 Zs32 Fa30) hZ (hw _ (List.mem_of_getElem? (i := 25) rfl)) (hw _ (List.mem_of_getElem? (i := 2) rfl)) (by decide) (by decide)) q33a q33c (g := (mkF m 154 #[iv p1, iv b0, iv b1, iv b2, rv b16, iv (1 : Int32)] [(.ref b16)])) rfl (by rw [hml]; rfl) (Steps.refl _) (argsL := []) (rest := []) (lenOf pd_2 rfl) rfl (by show 2 * 0 + _ ≤ _; exact Nat.le_of_eq rfl) (hb hby at_154) (fun _ _ => ⟨rfl, e31, (by decide : 1 + 0 ≤ _), (by decide : 2 + 0 ≤ _)⟩)
  dsimp only [Pt.U, Pt.locs, Pt.cells, Pt.slots] at X33 l33 y33 z33 st33 hQ33
  subst l33 y33 z33
  obtain ⟨rfl, N33q, e33q⟩ := hQ33
  have N33 := Fr.app N31 N33q
  have e33 : T33.heap = T30.heap := e33q
  obtain ⟨_, _, ⟨T34, L34, k34, n34⟩, -, X34, ⟨Lc34, hQ34, l34, y34, z34⟩, st34⟩ := Jvm.LawKit.callS X33 hx (y := (⟨"com/example/clockwright/clockwright/mcmc/AcceptanceCountPinLaw", "one", "(Z)J"⟩ : MethodName)) hown (mvT hZ (hw _ (List.mem_of_getElem? (i := 28) rfl))) (mvT hZ (hw _ (List.mem_of_getElem? (i := 29) rfl))) (mvT hZ (hw _ (List.mem_of_getElem? (i := 30) rfl))) (mvT hZ (hw _ (List.mem_of_getElem? (i := 31) rfl))) (by decide) (backOf (W := 2) (rm6 l Z a0 hw [] b0 T30.heap n0 Zs32 ) hZ (hw _ (List.mem_of_getElem? (i := 31) rfl)) (hw _ (List.mem_of_getElem? (i := 30) rfl)) (by decide) (by decide)) (g := (mkF m 158 #[iv p1, iv b0, iv b1, iv b2, rv b16, iv (1 : Int32)] [(.int b0), (.long ((((0 : Int64) + own_one b0) + own_one b1) + own_one b2))])) rfl (by rw [hml]; rfl) (argsL := [(.int b0)]) (rest := [(.long ((((0 : Int64) + own_one b0) + own_one b1) + own_one b2))]) (lenOf pd_3 rfl) rfl (by show 2 * 0 + _ ≤ _; exact Nat.le_of_eq rfl) (hb hby at_158) (fun _ _ => ⟨rfl, e33, (by decide : 1 + 0 ≤ _), (by decide : 2 + 0 ≤ _)⟩)
  dsimp only [Pt.U, Pt.locs, Pt.cells, Pt.slots] at X34 l34 y34 z34 st34 hQ34
  subst l34 y34 z34
  obtain ⟨rfl, N34q, e34q⟩ := hQ34
  have N34 := Fr.app N33 N34q
  have e34 : T34.heap = T30.heap := e34q
  obtain ⟨_, _, ⟨T35, L35, k35, n35⟩, -, X35, ⟨Lc35, hQ35, l35, y35, z35⟩, st35⟩ := Jvm.LawKit.callS X34 hx (y := (⟨"com/example/clockwright/clockwright/mcmc/AcceptanceCountPinLaw", "one", "(Z)J"⟩ : MethodName)) hown (mvT hZ (hw _ (List.mem_of_getElem? (i := 28) rfl))) (mvT hZ (hw _ (List.mem_of_getElem? (i := 29) rfl))) (mvT hZ (hw _ (List.mem_of_getElem? (i := 30) rfl))) (mvT hZ (hw _ (List.mem_of_getElem? (i := 31) rfl))) (by decide) (backOf (W := 4) (rm6 l Z a0 hw [] b1 T30.heap n0 Zs32 ) hZ (hw _ (List.mem_of_getElem? (i := 31) rfl)) (hw _ (List.mem_of_getElem? (i := 30) rfl)) (by decide) (by decide)) (g := (mkF m 162 #[iv p1, iv b0, iv b1, iv b2, rv b16, iv (1 : Int32)] [(.int b1), (.long (own_one b0)), (.long ((((0 : Int64) + own_one b0) + own_one b1) + own_one b2))])) rfl (by rw [hml]; rfl) (argsL := [(.int b1)]) (rest := [(.long (own_one b0)), (.long ((((0 : Int64) + own_one b0) + own_one b1) + own_one b2))]) (lenOf pd_3 rfl) rfl (by show 2 * 0 + _ ≤ _; exact Nat.le_of_eq rfl) (hb hby at_162) (fun _ _ => ⟨rfl, e34, (by decide : 1 + 0 ≤ _), (by decide : 2 + 0 ≤ _)⟩)
  dsimp only [Pt.U, Pt.locs, Pt.cells, Pt.slots] at X35 l35 y35 z35 st35 hQ35
  subst l35 y35 z35
  obtain ⟨rfl, N35q, e35q⟩ := hQ35
  have N35 := Fr.app N34 N35q
  have e35 : T35.heap = T30.heap := e35q
  obtain ⟨_, _, ⟨T36, L36, k36, n36⟩, -, X36, ⟨Lc36, hQ36, l36, y36, z36⟩, st36⟩ := Jvm.LawKit.callS X35 hx (y := (⟨"com/example/clockwright/clockwright/mcmc/AcceptanceCountPinLaw", "one", "(Z)J"⟩ : MethodName)) hown (mvT hZ (hw _ (List.mem_of_getElem? (i := 28) rfl))) (mvT hZ (hw _ (List.mem_of_getElem? (i := 29) rfl))) (mvT hZ (hw _ (List.mem_of_getElem? (i := 30) rfl))) (mvT hZ (hw _ (List.mem_of_getElem? (i := 31) rfl))) (by decide) (backOf (W := 4) (rm6 l Z a0 hw [] b2 T30.heap n0 Zs32 ) hZ (hw _ (List.mem_of_getElem? (i := 31) rfl)) (hw _ (List.mem_of_getElem? (i := 30) rfl)) (by decide) (by decide)) (g := (mkF m 167 #[iv p1, iv b0, iv b1, iv b2, rv b16, iv (1 : Int32)] [(.int b2), (.long ((own_one b0) + (own_one b1))), (.long ((((0 : Int64) + own_one b0) + own_one b1) + own_one b2))])) rfl (by rw [hml]; rfl) (argsL := [(.int b2)]) (rest := [(.long ((own_one b0) + (own_one b1))), (.long ((((0 : Int64) + own_one b0) + own_one b1) + own_one b2))]) (lenOf pd_3 rfl) rfl (by show 2 * 0 + _ ≤ _; exact Nat.le_of_eq rfl) (hb hby at_167) (fun _ _ => ⟨rfl, e35, (by decide : 1 + 0 ≤ _), (by decide : 2 + 0 ≤ _)⟩)
  dsimp only [Pt.U, Pt.locs, Pt.cells, Pt.slots] at X36 l36 y36 z36 st36 hQ36
  subst l36 y36 z36
  obtain ⟨rfl, N36q, e36q⟩ := hQ36
  have N36 := Fr.app N35 N36q
  have e36 : T36.heap = T30.heap := e36q
  have pre37 : ∀ t, own_S p e below T36 m 184 #[iv p1, iv b0, iv b1, iv b2, rv b16, iv (1 : Int32)] [(.int (1 : Int32))] t → Steps p.tables e below (s₁.setTop (entryFrame m #[(.int p1)] maxLocals)) t := fun t k => prej11 t (by
    show own_S p e below s₁ m 35 #[iv p1, iv b0, iv b1, .unset, .unset, .unset] [(.int b2)] _
    refine XS.istoreN X0.here hx rfl (hb hby at_35) rfl (l' := #[iv p1, iv b0, iv b1, iv b2, .unset, .unset]) rfl ?_
    show own_S p e below s₁ m 36 #[iv p1, iv b0, iv b1, iv b2, .unset, .unset] [] _
    refine st16 _ ?_
    show own_S p e below T16 m 39 #[iv p1, iv b0, iv b1, iv b2, .unset, .unset] [(.ref b16)] _
    refine XS.dup X16.here hx rfl (hb hby at_39) rfl rfl ?_
    show own_S p e below T16 m 40 #[iv p1, iv b0, iv b1, iv b2, .unset, .unset] [(.ref b16), (.ref b16)] _
    refine st17.trans ?_
    show own_S p e below T17 m 43 #[iv p1, iv b0, iv b1, iv b2, .unset, .unset] [(.ref b16)] _
    refine XS.astore X17.here hx rfl (hb hby at_43) rfl rfl (l' := #[iv p1, iv b0, iv b1, iv b2, rv b16, .unset]) rfl ?_
    show own_S p e below T17 m 45 #[iv p1, iv b0, iv b1, iv b2, rv b16, .unset] [] _
    refine XS.aload X17.here hx rfl (hb hby at_45) rfl rfl ?_
    show own_S p e below T17 m 47 #[iv p1, iv b0, iv b1, iv b2, rv b16, .unset] [(.ref b16)] _
    refine XS.iloadN X17.here hx rfl (hb hby at_47) rfl ?_
    show own_S p e below T17 m 48 #[iv p1, iv b0, iv b1, iv b2, rv b16, .unset] [(.int b0), (.ref b16)] _
    refine st19.trans ?_
    show own_S p e below T19 m 51 #[iv p1, iv b0, iv b1, iv b2, rv b16, .unset] [] _
    refine XS.aload X19.here hx rfl (hb hby at_51) rfl rfl ?_
    show own_S p e below T19 m 53 #[iv p1, iv b0, iv b1, iv b2, rv b16, .unset] [(.ref b16)] _
    refine st20.trans ?_
    show own_S p e below T20 m 56 #[iv p1, iv b0, iv b1, iv b2, rv b16, .unset] [(.long ((0 : Int64) + (1 : Int64)))] _
    refine XS.lconst X20.here hx rfl (hb hby at_56) ?_
    show own_S p e below T20 m 57 #[iv p1, iv b0, iv b1, iv b2, rv b16, .unset] [(.long (1 : Int64)), (.long ((0 : Int64) + (1 : Int64)))] _
    refine XS.lcmp X20.here hx rfl (hb hby at_57) rfl ?_
    show own_S p e below T20 m 58 #[iv p1, iv b0, iv b1, iv b2, rv b16, .unset] [(.int (lcmpW ((0 : Int64) + (1 : Int64)) (1 : Int64)))] _
    refine XS.ifNo X20.here hx rfl (hb hby at_58) rfl ((if0 _ _).trans (teq ((lw_eq _ _).mpr (by decide : ((0 : Int64) + (1 : Int64)) = (1 : Int64)))).2) ?_
    show own_S p e below T20 m 61 #[iv p1, iv b0, iv b1, iv b2, rv b16, .unset] [] _
    refine XS.aload X20.here hx rfl (hb hby at_61) rfl rfl ?_
    show own_S p e below T20 m 63 #[iv p1, iv b0, iv b1, iv b2, rv b16, .unset] [(.ref b16)] _
    refine st22.trans ?_
    show own_S p e below T22 m 66 #[iv p1, iv b0, iv b1, iv b2, rv b16, .unset] [(.long ((0 : Int64) + own_one b0))] _
    refine XS.iloadN X22.here hx rfl (hb hby at_66) rfl ?_
    show own_S p e below T22 m 67 #[iv p1, iv b0, iv b1, iv b2, rv b16, .unset] [(.int b0), (.long ((0 : Int64) + own_one b0))] _
    refine st23 _ ?_
    show own_S p e below T23 m 70 #[iv p1, iv b0, iv b1, iv b2, rv b16, .unset] [(.long (own_one b0)), (.long ((0 : Int64) + own_one b0))] _
    refine XS.lcmp X23.here hx rfl (hb hby at_70) rfl ?_
    show own_S p e below T23 m 71 #[iv p1, iv b0, iv b1, iv b2, rv b16, .unset] [(.int (lcmpW ((0 : Int64) + own_one b0) (own_one b0)))] _
    refine XS.ifNo X23.here hx rfl (hb hby at_71) rfl ((if0 _ _).trans (teq ((lw_eq _ _).mpr (by rw [Int64.zero_add] : ((0 : Int64) + own_one b0) = (own_one b0)))).2) ?_
    show own_S p e below T23 m 74 #[iv p1, iv b0, iv b1, iv b2, rv b16, .unset] [] _
    refine XS.iconst X23.here hx rfl (hb hby at_74) ?_
    show own_S p e below T23 m 75 #[iv p1, iv b0, iv b1, iv b2, rv b16, .unset] [(.int (1 : Int32))] _
    refine XS.goto X23.here hx rfl (pc0 := 75) (pc' := 79) rfl (hb hby at_75) (by decide) (by decide) ?_
    show own_S p e below T23 m 79 #[iv p1, iv b0, iv b1, iv b2, rv b16, .unset] [(.int (1 : Int32))] _
    refine XS.istore X23.here hx rfl (hb hby at_79) rfl (l' := #[iv p1, iv b0, iv b1, iv b2, rv b16, iv (1 : Int32)]) rfl ?_
    show own_S p e below T23 m 81 #[iv p1, iv b0, iv b1, iv b2, rv b16, iv (1 : Int32)] [] _
    refine XS.aload X23.here hx rfl (hb hby at_81) rfl rfl ?_
    show own_S p e below T23 m 83 #[iv p1, iv b0, iv b1, iv b2, rv b16, iv (1 : Int32)] [(.ref b16)] _
    refine XS.iloadN X23.here hx rfl (hb hby at_83) rfl ?_
    show own_S p e below T23 m 84 #[iv p1, iv b0, iv b1, iv b2, rv b16, iv (1 : Int32)] [(.int b1), (.ref b16)] _
    refine st24.trans ?_
    show own_S p e below T24 m 87 #[iv p1, iv b0, iv b1, iv b2, rv b16, iv (1 : Int32)] [] _
    refine XS.iload X24.here hx rfl (hb hby at_87) rfl ?_
    show own_S p e below T24 m 89 #[iv p1, iv b0, iv b1, iv b2, rv b16, iv (1 : Int32)] [(.int (1 : Int32))] _
    refine XS.ifNo X24.here hx rfl (hb hby at_89) rfl ((if0 _ _).trans (feq (by decide : ¬ ((1 : Int32) = (0 : Int32)))).1) ?_
    show own_S p e below T24 m 92 #[iv p1, iv b0, iv b1, iv b2, rv b16, iv (1 : Int32)] [] _
    refine XS.aload X24.here hx rfl (hb hby at_92) rfl rfl ?_
    show own_S p e below T24 m 94 #[iv p1, iv b0, iv b1, iv b2, rv b16, iv (1 : Int32)] [(.ref b16)] _
    refine st25.trans ?_
    show own_S p e below T25 m 97 #[iv p1, iv b0, iv b1, iv b2, rv b16, iv (1 : Int32)] [(.long (((0 : Int64) + (1 : Int64)) + (1 : Int64)))] _
    refine X25.ldc2Long hx hown (mvT hZ (hw _ (List.mem_of_getElem? (i := 32) rfl))) (g := (mkF m 97 #[iv p1, iv b0, iv b1, iv b2, rv b16, iv (1 : Int32)] [(.long (((0 : Int64) + (1 : Int64)) + (1 : Int64)))])) rfl (hb hby at_97) _ ?_
    show own_S p e below T25 m 100 #[iv p1, iv b0, iv b1, iv b2, rv b16, iv (1 : Int32)] [(.long (2 : Int64)), (.long (((0 : Int64) + (1 : Int64)) + (1 : Int64)))] _
    refine XS.lcmp X25.here hx rfl (hb hby at_100) rfl ?_
    show own_S p e below T25 m 101 #[iv p1, iv b0, iv b1, iv b2, rv b16, iv (1 : Int32)] [(.int (lcmpW (((0 : Int64) + (1 : Int64)) + (1 : Int64)) (2 : Int64)))] _
    refine XS.ifNo X25.here hx rfl (hb hby at_101) rfl ((if0 _ _).trans (teq ((lw_eq _ _).mpr (by decide : (((0 : Int64) + (1 : Int64)) + (1 : Int64)) = (2 : Int64)))).2) ?_
    show own_S p e below T25 m 104 #[iv p1, iv b0, iv b1, iv b2, rv b16, iv (1 : Int32)] [] _
    refine XS.aload X25.here hx rfl (hb hby at_104) rfl rfl ?_
    show own_S p e below T25 m 106 #[iv p1, iv b0, iv b1, iv b2, rv b16, iv (1 : Int32)] [(.ref b16)] _
    refine st27.trans ?_
    show own_S p e below T27 m 109 #[iv p1, iv b0, iv b1, iv b2, rv b16, iv (1 : Int32)] [(.long (((0 : Int64) + own_one b0) + own_one b1))] _
    refine XS.iloadN X27.here hx rfl (hb hby at_109) rfl ?_
    show own_S p e below T27 m 110 #[iv p1, iv b0, iv b1, iv b2, rv b16, iv (1 : Int32)] [(.int b0), (.long (((0 : Int64) + own_one b0) + own_one b1))] _
    refine st28 _ ?_
    show own_S p e below T28 m 113 #[iv p1, iv b0, iv b1, iv b2, rv b16, iv (1 : Int32)] [(.long (own_one b0)), (.long (((0 : Int64) + own_one b0) + own_one b1))] _
    refine XS.iloadN X28.here hx rfl (hb hby at_113) rfl ?_
    show own_S p e below T28 m 114 #[iv p1, iv b0, iv b1, iv b2, rv b16, iv (1 : Int32)] [(.int b1), (.long (own_one b0)), (.long (((0 : Int64) + own_one b0) + own_one b1))] _
    refine st29 _ ?_
    show own_S p e below T29 m 117 #[iv p1, iv b0, iv b1, iv b2, rv b16, iv (1 : Int32)] [(.long (own_one b1)), (.long (own_one b0)), (.long (((0 : Int64) + own_one b0) + own_one b1))] _
    refine XS.ladd X29.here hx rfl (hb hby at_117) rfl ?_
    show own_S p e below T29 m 118 #[iv p1, iv b0, iv b1, iv b2, rv b16, iv (1 : Int32)] [(.long ((own_one b0) + (own_one b1))), (.long (((0 : Int64) + own_one b0) + own_one b1))] _
    refine XS.lcmp X29.here hx rfl (hb hby at_118) rfl ?_
    show own_S p e below T29 m 119 #[iv p1, iv b0, iv b1, iv b2, rv b16, iv (1 : Int32)] [(.int (lcmpW (((0 : Int64) + own_one b0) + own_one b1) ((own_one b0) + (own_one b1))))] _
    refine XS.ifNo X29.here hx rfl (hb hby at_119) rfl ((if0 _ _).trans (teq ((lw_eq _ _).mpr (by rw [Int64.zero_add] : (((0 : Int64) + own_one b0) + own_one b1) = ((own_one b0) + (own_one b1))))).2) ?_
    show own_S p e below T29 m 122 #[iv p1, iv b0, iv b1, iv b2, rv b16, iv (1 : Int32)] [] _
    refine XS.iconst X29.here hx rfl (hb hby at_122) ?_
    show own_S p e below T29 m 123 #[iv p1, iv b0, iv b1, iv b2, rv b16, iv (1 : Int32)] [(.int (1 : Int32))] _
    refine XS.goto X29.here hx rfl (pc0 := 123) (pc' := 127) rfl (hb hby at_123) (by decide) (by decide) ?_
    show own_S p e below T29 m 127 #[iv p1, iv b0, iv b1, iv b2, rv b16, iv (1 : Int32)] [(.int (1 : Int32))] _
    refine XS.istore X29.here hx rfl (hb hby at_127) rfl (l' := #[iv p1, iv b0, iv b1, iv b2, rv b16, iv (1 : Int32)]) rfl ?_
    show own_S p e below T29 m 129 #[iv p1, iv b0, iv b1, iv b2, rv b16, iv (1 : Int32)] [] _
    refine XS.aload X29.here hx rfl (hb hby at_129) rfl rfl ?_
    show own_S p e below T29 m 131 #[iv p1, iv b0, iv b1, iv b2, rv b16, iv (1 : Int32)] [(.ref b16)] _
    refine XS.iloadN X29.here hx rfl (hb hby at_131) rfl ?_
    show own_S p e below T29 m 132 #[iv p1, iv b0, iv b1, iv b2, rv b16, iv (1 : Int32)] [(.int b2), (.ref b16)] _
    refine st30.trans ?_
    show own_S p e below T30 m 135 #[iv p1, iv b0, iv b1, iv b2, rv b16, iv (1 : Int32)] [] _
    refine XS.iload X30.here hx rfl (hb hby at_135) rfl ?_
    show own_S p e below T30 m 137 #[iv p1, iv b0, iv b1, iv b2, rv b16, iv (1 : Int32)] [(.int (1 : Int32))] _
    refine XS.ifNo X30.here hx rfl (hb hby at_137) rfl ((if0 _ _).trans (feq (by decide : ¬ ((1 : Int32) = (0 : Int32)))).1) ?_
    show own_S p e below T30 m 140 #[iv p1, iv b0, iv b1, iv b2, rv b16, iv (1 : Int32)] [] _
    refine XS.aload X30.here hx rfl (hb hby at_140) rfl rfl ?_
    show own_S p e below T30 m 142 #[iv p1, iv b0, iv b1, iv b2, rv b16, iv (1 : Int32)] [(.ref b16)] _
    refine st31.trans ?_
    show own_S p e below T31 m 145 #[iv p1, iv b0, iv b1, iv b2, rv b16, iv (1 : Int32)] [(.long ((((0 : Int64) + (1 : Int64)) + (1 : Int64)) + (1 : Int64)))] _
    refine X31.ldc2Long hx hown (mvT hZ (hw _ (List.mem_of_getElem? (i := 33) rfl))) (g := (mkF m 145 #[iv p1, iv b0, iv b1, iv b2, rv b16, iv (1 : Int32)] [(.long ((((0 : Int64) + (1 : Int64)) + (1 : Int64)) + (1 : Int64)))])) rfl (hb hby at_145) _ ?_
    show own_S p e below T31 m 148 #[iv p1, iv b0, iv b1, iv b2, rv b16, iv (1 : Int32)] [(.long (3 : Int64)), (.long ((((0 : Int64) + (1 : Int64)) + (1 : Int64)) + (1 : Int64)))] _
    refine XS.lcmp X31.here hx rfl (hb hby at_148) rfl ?_
    show own_S p e below T31 m 149 #[iv p1, iv b0, iv b1, iv b2, rv b16, iv (1 : Int32)] [(.int (lcmpW ((((0 : Int64) + (1 : Int64)) + (1 : Int64)) + (1 : Int64)) (3 : Int64)))] _
    refine XS.ifNo X31.here hx rfl (hb hby at_149) rfl ((if0 _ _).trans (teq ((lw_eq _ _).mpr (by decide : ((((0 : Int64) + (1 : Int64)) + (1 : Int64)) + (1 : Int64)) = (3 : Int64)))).2) ?_
    show own_S p e below T31 m 152 #[iv p1, iv b0, iv b1, iv b2, rv b16, iv (1 : Int32)] [] _
    refine XS.aload X31.here hx rfl (hb hby at_152) rfl rfl ?_
    show own_S p e below T31 m 154 #[iv p1, iv b0, iv b1, iv b2, rv b16, iv (1 : Int32)] [(.ref b16)] _
    refine st33.trans ?_
    show own_S p e below T33 m 157 #[iv p1, iv b0, iv b1, iv b2, rv b16, iv (1 : Int32)] [(.long ((((0 : Int64) + own_one b0) + own_one b1) + own_one b2))] _
    refine XS.iloadN X33.here hx rfl (hb hby at_157) rfl ?_
    show own_S p e below T33 m 158 #[iv p1, iv b0, iv b1, iv b2, rv b16, iv (1 : Int32)] [(.int b0), (.long ((((0 : Int64) + own_one b0) + own_one b1) + own_one b2))] _
    refine st34 _ ?_
    show own_S p e below T34 m 161 #[iv p1, iv b0, iv b1, iv b2, rv b16, iv (1 : Int32)] [(.long (own_one b0)), (.long ((((0 : Int64) + own_one b0) + own_one b1) + own_one b2))] _
    refine XS.iloadN X34.here hx rfl (hb hby at_161) rfl ?_
    show own_S p e below T34 m 162 #[iv p1, iv b0, iv b1, iv b2, rv b16, iv (1 : Int32)] [(.int b1), (.long (own_one b0)), (.long ((((0 : Int64) + own_one b0) + own_one b1) + own_one b2))] _
    refine st35 _ ?_
    show own_S p e below T35 m 165 #[iv p1, iv b0, iv b1, iv b2, rv b16, iv (1 : Int32)] [(.long (own_one b1)), (.long (own_one b0)), (.long ((((0 : Int64) + own_one b0) + own_one b1) + own_one b2))] _
    refine XS.ladd X35.here hx rfl (hb hby at_165) rfl ?_
    show own_S p e below T35 m 166 #[iv p1, iv b0, iv b1, iv b2, rv b16, iv (1 : Int32)] [(.long ((own_one b0) + (own_one b1))), (.long ((((0 : Int64) + own_one b0) + own_one b1) + own_one b2))] _
    refine XS.iloadN X35.here hx rfl (hb hby at_166) rfl ?_
    show own_S p e below T35 m 167 #[iv p1, iv b0, iv b1, iv b2, rv b16, iv (1 : Int32)] [(.int b2), (.long ((own_one b0) + (own_one b1))), (.long ((((0 : Int64) + own_one b0) + own_one b1) + own_one b2))] _
    refine st36 _ ?_
    show own_S p e below T36 m 170 #[iv p1, iv b0, iv b1, iv b2, rv b16, iv (1 : Int32)] [(.long (own_one b2)), (.long ((own_one b0) + (own_one b1))), (.long ((((0 : Int64) + own_one b0) + own_one b1) + own_one b2))] _
    refine XS.ladd X36.here hx rfl (hb hby at_170) rfl ?_
    show own_S p e below T36 m 171 #[iv p1, iv b0, iv b1, iv b2, rv b16, iv (1 : Int32)] [(.long (((own_one b0) + (own_one b1)) + (own_one b2))), (.long ((((0 : Int64) + own_one b0) + own_one b1) + own_one b2))] _
    refine XS.lcmp X36.here hx rfl (hb hby at_171) rfl ?_
    show own_S p e below T36 m 172 #[iv p1, iv b0, iv b1, iv b2, rv b16, iv (1 : Int32)] [(.int (lcmpW ((((0 : Int64) + own_one b0) + own_one b1) + own_one b2) (((own_one b0) + (own_one b1)) + (own_one b2))))] _
    refine XS.ifNo X36.here hx rfl (hb hby at_172) rfl ((if0 _ _).trans (teq ((lw_eq _ _).mpr (by rw [Int64.zero_add] : ((((0 : Int64) + own_one b0) + own_one b1) + own_one b2) = (((own_one b0) + (own_one b1)) + (own_one b2))))).2) ?_
    show own_S p e below T36 m 175 #[iv p1, iv b0, iv b1, iv b2, rv b16, iv (1 : Int32)] [] _
    refine XS.iconst X36.here hx rfl (hb hby at_175) ?_
    show own_S p e below T36 m 176 #[iv p1, iv b0, iv b1, iv b2, rv b16, iv (1 : Int32)] [(.int (1 : Int32))] _
    refine XS.goto X36.here hx rfl (pc0 := 176) (pc' := 180) rfl (hb hby at_176) (by decide) (by decide) ?_
    show own_S p e below T36 m 180 #[iv p1, iv b0, iv b1, iv b2, rv b16, iv (1 : Int32)] [(.int (1 : Int32))] _
    refine XS.istore X36.here hx rfl (hb hby at_180) rfl (l' := #[iv p1, iv b0, iv b1, iv b2, rv b16, iv (1 : Int32)]) rfl ?_
    show own_S p e below T36 m 182 #[iv p1, iv b0, iv b1, iv b2, rv b16, iv (1 : Int32)] [] _
    refine XS.iload X36.here hx rfl (hb hby at_182) rfl ?_
    exact k)
  obtain ⟨fs, hr, hrun, hended, hW, hsame⟩ := X36.leave (v := some (.int (nar .boolean (1 : Int32)))) (fun h => by rw [Bd.returns] at h; cases h)
  refine ⟨_, _, pre37 _ ?_, hrun, hended, _, _, rfl, ?_, ⟨_, rfl⟩, hW, hsame.mono (by decide) (by decide)⟩
  · show own_S p e below T36 m 184 #[iv p1, iv b0, iv b1, iv b2, rv b16, iv (1 : Int32)] [(.int (1 : Int32))] _
    exact retN X36 hx (t := .boolean) Bd.returns (by simp) (hb hby at_184) hr
  · show Q0 Z p1 h0 n0 _ T36.heap _
    rw [e36]
    exact ⟨rfl, N36⟩
set_option maxRecDepth 65536 in
set_option maxHeartbeats 40000000 in
theorem comes_1 {Post : Tables → Env → Array Value → State → Outcome → State → Prop} (hpost : ∀ tb e args s v u, (limb_1_1.after args s (.returned v) u = true ∧ limb_1_2.after args s (.returned v) u = true ∧ True) → FrameEnd s (.returned v) u (Jvm.fieldLocs frame_1_writes args s ++ Jvm.arrayLocs frame_1_arrays args s ++ Jvm.staticLocs frame_1_statics s) 16 128 → Post tb e args s (.returned v) u) :
    ArmFor flags0 classFile x code maxLocals ret World_1 tables_1 room_1 Calls_1 rest_1 Pre_1 Post := by
  intro l hfl _ _ p e ha hc hk s m args below hf hA hF happ hP
  obtain ⟨hcalls, hrest, hpre⟩ := hP
  obtain ⟨-, -, -, hnamed, -, -, -, hat⟩ := (Spec.applies_iff hf).mp happ
  obtain ⟨hg, hn⟩ := and_e (Cond.before_iff.mp (show (Jvm.Cond.and given_1 narrow_1).before args s = true from hpre))
  obtain ⟨g1, g2⟩ := and_e hg
  obtain ⟨w0, rfl⟩ : ∃ w0 : Value, args = #[w0] := by
    have hs : args.size = 1 := by simpa [Cond.value, given_1] using g1
    obtain ⟨L⟩ := args
    match L, hs with
    | [w0], _ => exact ⟨w0, rfl⟩
  have hw := fun d (hd : d ∈ tables_1) => atoms_spec (ws := Jvm.Cond.code x code maxLocals ret :: tables_1) hat d (List.mem_cons_of_mem _ hd)
  have hfit : Fit s := fun {y c} hc i hi => by
    obtain ⟨ha, rfl⟩ := Array.getElem?_eq_some_iff.mp hc
    have q := List.all_eq_true.mp ((Array.all_eq_true_iff_forall_mem.mp hF) _ (Array.getElem_mem ha)) i (List.mem_range.mpr hi)
    simpa [Array.getElem?_eq_getElem hi] using q
  obtain ⟨i0, ei0⟩ := is_v g2
  obtain rfl : w0 = (.int i0) := Option.some.inj ei0
  obtain ⟨n, o, h1, h2, h3, _, L, rfl, ⟨rfl, N⟩, hq⟩ := rm0 l s _ hw tables_1 i0 s.heap s.heap.size (Nat.le_refl _)  p e ha hc hk s m _ below hf ((Spec.applies_iff_loose hf).mp happ).1 ⟨rfl, State.Warmed39.refl s, rfl⟩ trivial
  refine ⟨n, _, h1, h2, h3, hpost _ _ _ _ _ _ ⟨Cond.after_iff.mpr rfl, Cond.after_iff.mpr (eq_i res_at (Term.int_eval (1)) rfl), trivial⟩ ⟨hq.1, hq.2.1, (hq.2.2.sift fun y hy => Or.inr (N y hy)).mono (by decide) (by decide)⟩⟩
theorem main_1_1 : Claimed_1_1 := comes_1 fun _ _ _ _ _ _ h hF => ⟨h.1, hF⟩
theorem main_1_2 : Claimed_1_2 := comes_1 fun _ _ _ _ _ _ h hF => ⟨h.2.1, hF⟩
end Jvm.Pilot.@@N@@
namespace Jvm.Pilot.@@N@@
open Jvm Jvm.ClassFile Sem Op Lib Jvm.Free Jvm.Stand Jvm.Pilot.@@N@@.Jvm.D
/-! MADE BY PROGRAM (witnessworld.py) out of the Statement's table words and the real class files: 9 classes; the members and pool entries that the words name. The judged class is class 1, her method 2. -/
namespace start1
open Jvm.ClassFile
def u (s : String) : CpInfo := .utf8 (stringToUtf16 s)
/-- a pool by its gaps: so many unusable entries, then the entry; so many at the end -/
def gap : Nat → List CpInfo → List CpInfo
  | 0, r => r
  | n + 1, r => .unusable :: gap n r
def poolList (es : List (Nat × CpInfo)) (last : Nat) : List CpInfo := es.foldr (fun e r => gap e.1 (e.2 :: r)) (gap last [])
def pool (es : List (Nat × CpInfo)) (last : Nat) : Array CpInfo := ⟨poolList es last⟩
def fileOf (pool : Array CpInfo) (this : Nat) (attrs : Array Attribute := #[]) (ms : Array MethodInfo := #[]) (fl : Nat := 33) (sup : Nat := 0) (ifs : Array Nat := #[]) (fds : Array FieldInfo := #[]) : ClassFile where
  minorVersion := 0
  majorVersion := 65
  constantPool := pool
  accessFlags := fl
  thisClass := this
  superClass := sup
  interfaces := ifs
  fields := fds
  methods := ms
  attributes := attrs
def plain (name : String) (sup : Option ClassId) : Class where
  name := name
  kind := .ordinary
  loader := none
  accessFlags := 33
  super := sup
  interfaces := #[]
  cf := none
  fields := #[]
  methods := #[]
  instanceTypes := #[]
  staticTypes := #[]
  resolved := #[]
  callSites := []
  init := .initialized
  statics := none
  mirror := none

def pool0 : Array CpInfo := pool [(5, u "<init>"), (0, u "()V"), (1, .class_ 10), (1, u "java/lang/Object")] 113

def k0c0 : Code := { maxStack := 0, maxLocals := 1, code := object_method_1_code, exceptionTable := #[], attributes := #[] }
def k0m0 : Method := { name := "<init>", desc := "()V", sig := { parameters := [], returnType := none }, accessFlags := 1, code := some k0c0 }
/-- java/lang/Object -/
def k0 : Class := { plain "java/lang/Object" none with
  accessFlags := 33
  interfaces := #[]
  cf := some (fileOf pool0 8 #[] #[{ accessFlags := 1, nameIndex := 5, descriptorIndex := 6, attributes := #[] }] 33 0 #[] #[])
  fields := #[]
  methods := #[k0m0]
  instanceTypes := #[]
  staticTypes := #[]
  resolved := Array.replicate 124 none
  statics := none }

def pool1 : Array CpInfo := pool [(2, .class_ 4), (0, .nameAndType 5 6), (0, u "java/lang/Object"), (0, u "<init>"), (0, u "()V"), (0, .class_ 8), (0, u "com/example/clockwright/clockwright/mcmc/Acceptance"), (0, .methodref 7 3), (0, .methodref 7 11), (0, .nameAndType 12 13), (0, u "count"), (0, u "(Z)V"), (0, .methodref 7 15), (0, .nameAndType 16 17), (0, u "proposals"), (0, u "()J"), (0, .methodref 7 19), (0, .nameAndType 20 17), (0, u "accepted"), (0, .methodref 22 23), (0, .class_ 24), (0, .nameAndType 25 26), (0, u "com/example/clockwright/clockwright/mcmc/AcceptanceCountPinLaw"), (0, u "one"), (0, u "(Z)J"), (0, .long 2), (1, .long 3), (4, u "law"), (0, u "(I)Z")] 2

def k1m0 : Method := { name := "<init>", desc := "()V", sig := { parameters := [], returnType := none }, accessFlags := 1, code := none }
def k1c1 : Code := { maxStack := 2, maxLocals := 1, code := method_2_code, exceptionTable := #[], attributes := #[] }
def k1m1 : Method := { name := "one", desc := "(Z)J", sig := { parameters := [.boolean], returnType := some .long }, accessFlags := 10, code := some k1c1 }
def k1c2 : Code := { maxStack := 6, maxLocals := 6, code := code, exceptionTable := #[], attributes := #[] }
def k1m2 : Method := { name := "law", desc := "(I)Z", sig := { parameters := [.int], returnType := some .boolean }, accessFlags := 9, code := some k1c2 }
/-- com/example/clockwright/clockwright/mcmc/AcceptanceCountPinLaw -/
def k1 : Class := { plain "com/example/clockwright/clockwright/mcmc/AcceptanceCountPinLaw" (some 0) with
  accessFlags := 49
  interfaces := #[]
  cf := some (fileOf pool1 22 #[] #[{ accessFlags := 1, nameIndex := 5, descriptorIndex := 6, attributes := #[] }, { accessFlags := 10, nameIndex := 25, descriptorIndex := 26, attributes := #[] }, { accessFlags := 9, nameIndex := 34, descriptorIndex := 35, attributes := #[] }] 49 2 #[] #[])
  fields := #[]
  methods := #[k1m0, k1m1, k1m2]
  instanceTypes := #[]
  staticTypes := #[]
  resolved := Array.replicate 38 none
  statics := none }

def pool2 : Array CpInfo := pool [(1, .methodref 2 3), (0, .class_ 4), (0, .nameAndType 5 6), (0, u "java/lang/Object"), (0, u "<init>"), (0, u "()V"), (0, .fieldref 8 9), (0, .class_ 10), (0, .nameAndType 11 12), (0, u "com/example/clockwright/clockwright/mcmc/Acceptance"), (0, u "proposals"), (0, u "J"), (0, .fieldref 8 14), (0, .nameAndType 15 12), (0, u "accepted"), (11, u "()J"), (6, u "count"), (0, u "(Z)V")] 12

def k2c0 : Code := { maxStack := 1, maxLocals := 1, code := prog_30_method_1_code, exceptionTable := #[], attributes := #[] }
def k2m0 : Method := { name := "<init>", desc := "()V", sig := { parameters := [], returnType := none }, accessFlags := 1, code := some k2c0 }
def k2c1 : Code := { maxStack := 5, maxLocals := 2, code := prog_30_method_2_code, exceptionTable := #[], attributes := #[] }
def k2m1 : Method := { name := "count", desc := "(Z)V", sig := { parameters := [.boolean], returnType := none }, accessFlags := 0, code := some k2c1 }
def k2c2 : Code := { maxStack := 2, maxLocals := 1, code := prog_30_method_5_code, exceptionTable := #[], attributes := #[] }
def k2m2 : Method := { name := "proposals", desc := "()J", sig := { parameters := [], returnType := some .long }, accessFlags := 1, code := some k2c2 }
def k2c3 : Code := { maxStack := 2, maxLocals := 1, code := prog_30_method_6_code, exceptionTable := #[], attributes := #[] }
def k2m3 : Method := { name := "accepted", desc := "()J", sig := { parameters := [], returnType := some .long }, accessFlags := 1, code := some k2c3 }
/-- com/example/clockwright/clockwright/mcmc/Acceptance -/
def k2 : Class := { plain "com/example/clockwright/clockwright/mcmc/Acceptance" (some 0) with
  accessFlags := 49
  interfaces := #[]
  cf := some (fileOf pool2 8 #[] #[{ accessFlags := 1, nameIndex := 5, descriptorIndex := 6, attributes := #[] }, { accessFlags := 0, nameIndex := 34, descriptorIndex := 35, attributes := #[] }, { accessFlags := 1, nameIndex := 11, descriptorIndex := 27, attributes := #[] }, { accessFlags := 1, nameIndex := 15, descriptorIndex := 27, attributes := #[] }] 49 2 #[] #[{ accessFlags := 2, nameIndex := 11, descriptorIndex := 12, attributes := #[] }, { accessFlags := 2, nameIndex := 15, descriptorIndex := 12, attributes := #[] }])
  fields := #[{ name := "proposals", type := .long, accessFlags := 2, slot := 0, constantValue := 0 }, { name := "accepted", type := .long, accessFlags := 2, slot := 1, constantValue := 0 }]
  methods := #[k2m0, k2m1, k2m2, k2m3]
  instanceTypes := #[.long, .long]
  staticTypes := #[]
  resolved := Array.replicate 48 none
  statics := none }

def pool3 : Array CpInfo := pool [(1, u "java/lang/Cloneable"), (0, .class_ 1), (0, u "java/lang/Object"), (0, .class_ 3)] 3

/-- java/lang/Cloneable -/
def k3 : Class := { plain "java/lang/Cloneable" (some 0) with
  accessFlags := 1537
  interfaces := #[]
  cf := some (fileOf pool3 2 #[] #[] 1537 4 #[] #[])
  fields := #[]
  methods := #[]
  instanceTypes := #[]
  staticTypes := #[]
  resolved := Array.replicate 8 none
  statics := none }

def pool4 : Array CpInfo := pool [(1, u "java/io/Serializable"), (0, .class_ 1), (0, u "java/lang/Object"), (0, .class_ 3)] 3

/-- java/io/Serializable -/
def k4 : Class := { plain "java/io/Serializable" (some 0) with
  accessFlags := 1537
  interfaces := #[]
  cf := some (fileOf pool4 2 #[] #[] 1537 4 #[] #[])
  fields := #[]
  methods := #[]
  instanceTypes := #[]
  staticTypes := #[]
  resolved := Array.replicate 8 none
  statics := none }

/-- the primitive byte -/
def k5 : Class := { plain "byte" none with kind := .primitive 'B', accessFlags := 0x411 }
/-- [B -/
def k6 : Class := { plain "[B" (some 0) with kind := .array 5 .byte, interfaces := #[3, 4], accessFlags := 1041 }

/-- the primitive int -/
def k7 : Class := { plain "int" none with kind := .primitive 'I', accessFlags := 0x411 }
/-- [I -/
def k8 : Class := { plain "[I" (some 0) with kind := .array 7 .int, interfaces := #[3, 4], accessFlags := 1041 }

def heap : Heap := #[]
def classes : Array Class := #[k0, k1, k2, k3, k4, k5, k6, k7, k8]
def interned : List (Array UInt16 × Addr) := []
def slotsUsed : Nat := 0
def theMethod : MethodId := ⟨1, 2⟩
def args0 : Array Value := #[.int 5]
def aboutOver (below : List Frame) : State where
  vm := { classes := classes, interned := interned.toArray }
  heap := heap
  slotsUsed := slotsUsed
  threads := #[{ frames := .invoking theMethod args0 :: below }]
def below0 : List Frame := [.native { method := ⟨0, 0⟩, args := #[] }]
def about1 : State := aboutOver below0
def p0 : Program := .bare "" "" ""
def e0 : Env := launch0.env 0 0 0
theorem w_frames : about1.frames = Frame.invoking theMethod args0 :: below0 := rfl
set_option maxRecDepth 65536 in
theorem w_args : argsFit about1.vm theMethod args0 = true := by decide +kernel
set_option maxRecDepth 65536 in
theorem w_heap : heapFits about1 = true := by decide +kernel
set_option maxRecDepth 65536 in
theorem w_runnable : about1.curStatus? = some .runnable := by decide +kernel
set_option maxRecDepth 65536 in
theorem w_alone : about1.alone = true := by decide +kernel
set_option maxRecDepth 65536 in
theorem w_named : about1.methodNamed? x = some theMethod := by decide +kernel
set_option maxRecDepth 65536 in
theorem w_hears : about1.hears theMethod below0 = true := by decide +kernel
set_option maxRecDepth 65536 in
theorem w_ripe : about1.ripe theMethod args0 below0 = true := by decide +kernel
theorem w_running : about1.status = .running := rfl
set_option maxRecDepth 65536 in
theorem w_room : about1.hasRoom e0.platform room_1 = true :=
  launch0.hasRoom_least _ room_1 (by decide +kernel) (by decide +kernel) (by decide +kernel) (by decide +kernel) (by decide +kernel) (by decide +kernel)
theorem allAtoms_all (ts : List Jvm.Cond) (a : Array Jvm.Value) (st : Jvm.State) : (allAtoms ts).before a st = ts.all (fun c => c.before a st) := by
  induction ts with
  | nil => rfl
  | cons c t ih =>
    show (Jvm.Cond.and c (allAtoms t)).before a st = _
    rw [Jvm.Cond.before_and, ih, List.all_cons]
def words1 : List Jvm.Cond := Jvm.Cond.code x code maxLocals ret :: tables_1
/-- a 'code' word, met by the world's own term for the bytes: nothing is compared byte by byte -/
theorem code_word {y : MethodName} {bytes : ByteArray} {mx : Nat} {rt : Option FieldType} {a : Array Value} {s : State} {m : MethodId} {meth : Method} {c : Code} (h1 : s.methodNamed? y = some m) (h2 : s.vm.method? m = some meth) (h3 : meth.code = some c) (h4 : c.code = bytes)
    (h5 : (c.maxLocals == mx && c.exceptionTable.isEmpty && decide (c.maxStack ≤ mostOperands) && decide (meth.sig.returnType = rt) && !meth.locks && decide (parseMethodDescriptor y.desc = some meth.sig)) = true) : (Jvm.Cond.code y bytes mx rt).before a s = true := by
  simp only [Bool.and_eq_true, beq_iff_eq, Bool.not_eq_true', decide_eq_true_eq] at h5
  obtain ⟨⟨⟨⟨⟨g1, g2⟩, g3⟩, g4⟩, g5⟩, g6⟩ := h5
  simp [Cond.before, Cond.holds, Cond.value, h1, h2, h3, h4, g1, g2, g3, g4, g5, g6]
def isCode : Jvm.Cond → Bool
  | .code _ _ _ _ => true
  | _ => false
theorem all_split {L : List Jvm.Cond} {P : Jvm.Cond → Bool} (h1 : L.all (fun c => isCode c || P c) = true) (h2 : ∀ c ∈ L.filter isCode, P c = true) : L.all P = true := by
  refine List.all_eq_true.mpr fun c hc => ?_
  have h := List.all_eq_true.mp h1 c hc
  rcases Bool.eq_false_or_eq_true (isCode c) with hi | hi
  · exact h2 c (List.mem_filter.mpr ⟨hc, hi⟩)
  · simpa [hi] using h
set_option maxRecDepth 65536 in
theorem w_c0 : (Jvm.Cond.code x code maxLocals ret).before args0 about1 = true := code_word (m := ⟨1, 2⟩) (meth := k1m2) (c := k1c2) (by decide +kernel) rfl rfl rfl (by decide +kernel)
set_option maxRecDepth 65536 in
theorem w_c1 : (Jvm.Cond.code ({ cls := "com/example/clockwright/clockwright/mcmc/Acceptance", name := "<init>", desc := "()V" } : Jvm.MethodName) prog_30_method_1_code (1 : Nat) (Option.none : Option Jvm.ClassFile.FieldType)).before args0 about1 = true := code_word (m := ⟨2, 0⟩) (meth := k2m0) (c := k2c0) (by decide +kernel) rfl rfl rfl (by decide +kernel)
set_option maxRecDepth 65536 in
theorem w_c2 : (Jvm.Cond.code ({ cls := "java/lang/Object", name := "<init>", desc := "()V" } : Jvm.MethodName) object_method_1_code (1 : Nat) (Option.none : Option Jvm.ClassFile.FieldType)).before args0 about1 = true := code_word (m := ⟨0, 0⟩) (meth := k0m0) (c := k0c0) (by decide +kernel) rfl rfl rfl (by decide +kernel)
set_option maxRecDepth 65536 in
theorem w_c3 : (Jvm.Cond.code ({ cls := "com/example/clockwright/clockwright/mcmc/Acceptance", name := "count", desc := "(Z)V" } : Jvm.MethodName) prog_30_method_2_code (2 : Nat) (Option.none : Option Jvm.ClassFile.FieldType)).before args0 about1 = true := code_word (m := ⟨2, 1⟩) (meth := k2m1) (c := k2c1) (by decide +kernel) rfl rfl rfl (by decide +kernel)
set_option maxRecDepth 65536 in
theorem w_c4 : (Jvm.Cond.code ({ cls := "com/example/clockwright/clockwright/mcmc/Acceptance", name := "proposals", desc := "()J" } : Jvm.MethodName) prog_30_method_5_code (1 : Nat) (Option.some Jvm.ClassFile.FieldType.long)).before args0 about1 = true := code_word (m := ⟨2, 2⟩) (meth := k2m2) (c := k2c2) (by decide +kernel) rfl rfl rfl (by decide +kernel)
set_option maxRecDepth 65536 in
theorem w_c5 : (Jvm.Cond.code ({ cls := "com/example/clockwright/clockwright/mcmc/Acceptance", name := "accepted", desc := "()J" } : Jvm.MethodName) prog_30_method_6_code (1 : Nat) (Option.some Jvm.ClassFile.FieldType.long)).before args0 about1 = true := code_word (m := ⟨2, 3⟩) (meth := k2m3) (c := k2c3) (by decide +kernel) rfl rfl rfl (by decide +kernel)
set_option maxRecDepth 65536 in
theorem w_c6 : (Jvm.Cond.code ({ cls := "com/example/clockwright/clockwright/mcmc/AcceptanceCountPinLaw", name := "one", desc := "(Z)J" } : Jvm.MethodName) method_2_code (1 : Nat) (Option.some Jvm.ClassFile.FieldType.long)).before args0 about1 = true := code_word (m := ⟨1, 1⟩) (meth := k1m1) (c := k1c1) (by decide +kernel) rfl rfl rfl (by decide +kernel)
def codes1 : List Jvm.Cond := [Jvm.Cond.code x code maxLocals ret, Jvm.Cond.code ({ cls := "com/example/clockwright/clockwright/mcmc/Acceptance", name := "<init>", desc := "()V" } : Jvm.MethodName) prog_30_method_1_code (1 : Nat) (Option.none : Option Jvm.ClassFile.FieldType), Jvm.Cond.code ({ cls := "java/lang/Object", name := "<init>", desc := "()V" } : Jvm.MethodName) object_method_1_code (1 : Nat) (Option.none : Option Jvm.ClassFile.FieldType), Jvm.Cond.code ({ cls := "com/example/clockwright/clockwright/mcmc/Acceptance", name := "count", desc := "(Z)V" } : Jvm.MethodName) prog_30_method_2_code (2 : Nat) (Option.none : Option Jvm.ClassFile.FieldType), Jvm.Cond.code ({ cls := "com/example/clockwright/clockwright/mcmc/Acceptance", name := "proposals", desc := "()J" } : Jvm.MethodName) prog_30_method_5_code (1 : Nat) (Option.some Jvm.ClassFile.FieldType.long), Jvm.Cond.code ({ cls := "com/example/clockwright/clockwright/mcmc/Acceptance", name := "accepted", desc := "()J" } : Jvm.MethodName) prog_30_method_6_code (1 : Nat) (Option.some Jvm.ClassFile.FieldType.long), Jvm.Cond.code ({ cls := "com/example/clockwright/clockwright/mcmc/AcceptanceCountPinLaw", name := "one", desc := "(Z)J" } : Jvm.MethodName) method_2_code (1 : Nat) (Option.some Jvm.ClassFile.FieldType.long)]
set_option maxRecDepth 65536 in
theorem codes_eq : words1.filter isCode = codes1 := rfl
theorem w_codes : ∀ c ∈ words1.filter isCode, c.before args0 about1 = true := by
  rw [codes_eq]
  intro c hc
  simp only [codes1, List.mem_cons, List.not_mem_nil, or_false] at hc
  rcases hc with rfl | rfl | rfl | rfl | rfl | rfl | rfl
  · exact w_c0
  · exact w_c1
  · exact w_c2
  · exact w_c3
  · exact w_c4
  · exact w_c5
  · exact w_c6
set_option maxRecDepth 65536 in
theorem w_t1 : (words1.take 24).all (fun c => isCode c || c.before args0 about1) = true := by decide +kernel
set_option maxRecDepth 65536 in
theorem w_t2 : (words1.drop 24).all (fun c => isCode c || c.before args0 about1) = true := by decide +kernel
theorem w_tables : (allAtoms (Jvm.Cond.code x code maxLocals ret :: tables_1)).before args0 about1 = true := by
  rw [allAtoms_all]
  show words1.all (fun c => c.before args0 about1) = true
  refine all_split ?_ w_codes
  rw [← List.take_append_drop 24 words1, List.all_append, w_t1, w_t2]
  rfl
set_option maxRecDepth 65536 in
theorem w_case : (Jvm.Cond.and given_1 narrow_1).before args0 about1 = true := by decide +kernel
theorem w_applies : (headSpec (Jvm.Cond.code x code maxLocals ret :: tables_1) room_1).applies x e0.platform about1 = true :=
  (Spec.applies_iff w_frames).mpr ⟨w_running, w_runnable, w_alone, w_named, w_hears, w_ripe, w_room, w_tables⟩
theorem atStart : AtStart classFile x code maxLocals ret World_1 tables_1 room_1 Calls_1 rest_1 Pre_1 launch0 p0 e0 about1 theMethod args0 below0 :=
  ⟨lists_1, trivial, launch0.admits_env _ _ _, launch0.least_env, fairChoices_fair.cas, fairChoices_fair.clock, w_frames, w_args, w_heap, w_applies, trivial, trivial, w_case⟩
end start1
theorem witness_1 : WitnessClaimed_1 := ⟨start1.p0, start1.e0, start1.about1, start1.theMethod, start1.args0, start1.below0, start1.atStart⟩
end Jvm.Pilot.@@N@@
