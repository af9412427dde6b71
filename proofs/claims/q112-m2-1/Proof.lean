import JvmDerived
import JvmDerived.Pilot.@@N@@Statement
import JvmDerived.Pilot.@@N@@Code
set_option linter.unusedVariables false
set_option linter.unusedSimpArgs false
namespace Jvm.RoadKit
open Sem ClassFile Op Lib Jvm.Stand Jvm.Free Jvm.LawKit
section New
variable {p : Program} {l : Launch} {e : Env} {R : Room} {s : State} {m : MethodId} {args : Array Value} {below : List Frame} {meth : Method} {c : Code} {T : State} {locs : List Loc} {cells slots : Nat}
theorem retI (X : Stand p l e R s m args below meth c T locs cells slots) (hx : p.tables.exec = Jvm.exec) {pc : Nat} {Ls : Array Slot} {z : Int32} {rest : List Value} (hret : meth.sig.returnType = some .int) (hd : decode c.code pc = .ok (.ireturn, 1)) {fs : List Frame}
    (hl : ∀ (f : JFrame) (acts : List Action), f.method = m → f.locked = none → f.entered = [] → (doReturn e (T.setTop f) acts (some (.int z))).1 = T.setFrames fs) : Steps p.tables e below (T.setTop (mkF m pc Ls (.int z :: rest))) (T.setFrames fs) := by
  have hm' : T.vm.method? m = some meth := X.method'
  have hn : narrow .int (.int z) = .int z := rfl
  show Steps p.tables e below (T.setTop { method := m, pc := pc, locals := Ls, stack := _ :: rest, locked := none }) _
  jvm_step X.here [X.here.top, hx, hd, hm', hret, hn]
  first | (intro acts; rw [hl _ acts rfl rfl rfl]) | rw [hl _ _ rfl rfl rfl]
  exact Steps.refl _
end New
end Jvm.RoadKit
namespace Jvm.Pilot.@@N@@
open Jvm Jvm.ClassFile Sem Op Lib Jvm.Free Jvm.Stand Jvm.LawKit Jvm.RoadKit Bundle Jvm.Pilot.@@N@@.Jvm.D
abbrev own_S (p : Program) (e : Env) (b : List Frame) (T : State) (m : MethodId) (pc : Nat) (L : Array Slot) (S : List Value) (t : State) : Prop := Steps p.tables e b (T.setTop (mkF m pc L S)) t
def own_one (b : Int32) : Int64 := if b = 0 then 0 else 1
theorem pn_0 : plainName "com/example/clockwright/clockwright/mcmc/Acceptance" = true := by first | (simp [plainName, overriddenIn]; done) | decide +kernel
theorem ef_1 (m : MethodId) (a1 : Addr) : entryFrame m #[(.ref a1)] 1 = mkF m 0 #[rv a1] [] := by first | (simp [entryFrame, mkF, argsToLocals, Value.category]; done) | rfl
def Q1 (Z : State) (a1 : Addr) (h0 : Heap) (n0 : Nat) (v : Option Value) (h : Heap) (L : List Loc) : Prop := v = none ∧ Fr n0 L ∧ h = h0
theorem d1_0 : decode prog_30_method_1_code 0 = .ok (.aload_n 0, 1) := by decide +kernel
theorem d1_1 : decode prog_30_method_1_code 1 = .ok (.invokespecial 1, 3) := by decide +kernel
theorem d1_4 : decode prog_30_method_1_code 4 = .ok (.return_, 1) := by decide +kernel
set_option maxRecDepth 65536 in
set_option maxHeartbeats 40000000 in
theorem rm1 (l : Launch) (Z : State) (a0 : Array Value) (hw : ∀ d ∈ tables_1, d.before a0 Z = true) (ws : List Jvm.Cond) (a1 : Addr) (h0 : Heap) (n0 : Nat) (Z0 : n0 ≤ h0.size)  :
    MetFree l (⟨"com/example/clockwright/clockwright/mcmc/Acceptance", "<init>", "()V"⟩ : MethodName) (head1 (Jvm.Cond.code (⟨"com/example/clockwright/clockwright/mcmc/Acceptance", "<init>", "()V"⟩ : MethodName) prog_30_method_1_code 1 none :: ws) ({ frames := 1, cells := 0, slots := 0, locals := 12 } : Room)) (fun a U => a = #[(.ref a1)] ∧ Z.Warmed39 U.vm ∧ U.heap = h0) (fun _ _ _ _ _ => True) (fun _ U o U' => ∃ v L, o = .returned v ∧ Q1 Z a1 h0 n0 v U'.heap L ∧ FrameEnd U o U' L ({ frames := 1, cells := 0, slots := 0, locals := 12 } : Room).cells ({ frames := 1, cells := 0, slots := 0, locals := 12 } : Room).slots) := by
  refine MetFree.of_bodySF (plainFor_of_name pn_0) hisR ?_
  intro p e s m args below meth c s₁ Bd hml0 hP hK
  obtain ⟨rfl, hZ, hh⟩ := hP
  have hx := Bd.exec
  have hby := Bd.bytes
  have hml : c.maxLocals = 1 := hml0
  have hown : s.vm.findClass "com/example/clockwright/clockwright/mcmc/Acceptance" = some m.cls := findClass_of_methodNamed Bd.named
  have hnm := (name_of_methodNamed Bd.named Bd.method).1
  have X0 : Stand p l e ({ frames := 1, cells := 0, slots := 0, locals := 12 } : Room) s m #[(.ref a1)] below meth c s₁ [] 0 0 := Stand.of_body Bd
  have e0 : s₁.heap = h0 := by rw [← hh, Bd.state]; rfl
  have N0 := Fr.nil n0
  have pre0 : ∀ tg, Steps p.tables e below (s₁.setTop (mkF m 0 #[rv a1] [])) tg → Steps p.tables e below (s₁.setTop (entryFrame m #[(.ref a1)] 1)) tg := fun tg k => castTop (ef_1 m a1) k
  obtain ⟨T1, X1, e1, st1⟩ := initO X0 hx hZ hown (hw _ (List.mem_of_getElem? (i := 7) rfl)) (hw _ (List.mem_of_getElem? (i := 8) rfl)) (hw _ (List.mem_of_getElem? (i := 9) rfl)) e0 (g := (mkF m 1 #[rv a1] [(.ref a1)])) rfl (by rw [hml]; rfl) rfl (hb hby d1_1) (by decide) (W := 0) (by show 2 * 0 + _ ≤ _; exact Nat.le_of_eq rfl) (by decide)
  have pre2 : ∀ tg, own_S p e below T1 m 4 #[rv a1] [] tg → Steps p.tables e below (s₁.setTop (entryFrame m #[(.ref a1)] 1)) tg := fun tg k => pre0 tg (by
    show own_S p e below s₁ m 0 #[rv a1] [] _
    refine XS.aloadN X0.here hx rfl (hb hby d1_0) rfl rfl ?_
    show own_S p e below s₁ m 1 #[rv a1] [(.ref a1)] _
    refine st1 _ ?_
    exact k)
  obtain ⟨fs, hr, hrun, hended, hW, hsame⟩ := X1.leave (v := none) (fun _ => rfl)
  refine ⟨_, _, pre2 _ ?_, hrun, hended, _, _, rfl, ?_, ⟨_, rfl⟩, hW, hsame.mono (by decide) (by decide)⟩
  · show own_S p e below T1 m 4 #[rv a1] [] _
    exact X1.returnOut hx Bd.returns (hb hby d1_4) hr
  · show Q1 Z a1 h0 n0 _ T1.heap _
    rw [e1]
    exact ⟨rfl, N0, rfl⟩
theorem ef_6 (m : MethodId) (a1 : Addr) (p2 : Int32) : entryFrame m #[(.ref a1), (.int p2)] 2 = mkF m 0 #[rv a1, iv p2] [] := by first | (simp [entryFrame, mkF, argsToLocals, Value.category]; done) | rfl
def Q6 (Z : State) (a1 : Addr) (p2 : Int32) (P : Int64) (A : Int64) (h0 : Heap) (n0 : Nat) (v : Option Value) (h : Heap) (L : List Loc) : Prop := v = none ∧ Fr n0 L ∧ Keep h0 h [a1] ∧ Exa Z h a1 "com/example/clockwright/clockwright/mcmc/Acceptance" ∧ Fld Z h a1 "com/example/clockwright/clockwright/mcmc/Acceptance" "proposals" "J" (.long (P + (1 : Int64))) ∧ Fld Z h a1 "com/example/clockwright/clockwright/mcmc/Acceptance" "accepted" "J" (.long (A + own_one p2))
theorem d6_0 : decode prog_30_method_2_code 0 = .ok (.aload_n 0, 1) := by decide +kernel
theorem d6_1 : decode prog_30_method_2_code 1 = .ok (.dup, 1) := by decide +kernel
theorem d6_2 : decode prog_30_method_2_code 2 = .ok (.getfield 7, 3) := by decide +kernel
theorem d6_5 : decode prog_30_method_2_code 5 = .ok (.lconst 1, 1) := by decide +kernel
theorem d6_6 : decode prog_30_method_2_code 6 = .ok (.ladd, 1) := by decide +kernel
theorem d6_7 : decode prog_30_method_2_code 7 = .ok (.putfield 7, 3) := by decide +kernel
theorem d6_10 : decode prog_30_method_2_code 10 = .ok (.iload_n 1, 1) := by decide +kernel
theorem d6_11 : decode prog_30_method_2_code 11 = .ok (.ifCond .eq 13, 3) := by decide +kernel
theorem d6_24 : decode prog_30_method_2_code 24 = .ok (.return_, 1) := by decide +kernel
theorem d6_14 : decode prog_30_method_2_code 14 = .ok (.aload_n 0, 1) := by decide +kernel
theorem d6_15 : decode prog_30_method_2_code 15 = .ok (.dup, 1) := by decide +kernel
theorem d6_16 : decode prog_30_method_2_code 16 = .ok (.getfield 13, 3) := by decide +kernel
theorem d6_19 : decode prog_30_method_2_code 19 = .ok (.lconst 1, 1) := by decide +kernel
theorem d6_20 : decode prog_30_method_2_code 20 = .ok (.ladd, 1) := by decide +kernel
theorem d6_21 : decode prog_30_method_2_code 21 = .ok (.putfield 13, 3) := by decide +kernel
set_option maxRecDepth 65536 in
set_option maxHeartbeats 40000000 in
theorem rm6 (l : Launch) (Z : State) (a0 : Array Value) (hw : ∀ d ∈ tables_1, d.before a0 Z = true) (ws : List Jvm.Cond) (a1 : Addr) (p2 : Int32) (P : Int64) (A : Int64) (h0 : Heap) (n0 : Nat) (Z0 : n0 ≤ h0.size) (E_a1 : Exa Z h0 a1 "com/example/clockwright/clockwright/mcmc/Acceptance") (g_a1 : n0 ≤ a1) (F_p : Fld Z h0 a1 "com/example/clockwright/clockwright/mcmc/Acceptance" "proposals" "J" (.long P)) (F_a : Fld Z h0 a1 "com/example/clockwright/clockwright/mcmc/Acceptance" "accepted" "J" (.long A)) :
    MetFree l (⟨"com/example/clockwright/clockwright/mcmc/Acceptance", "count", "(Z)V"⟩ : MethodName) (head1 (Jvm.Cond.code (⟨"com/example/clockwright/clockwright/mcmc/Acceptance", "count", "(Z)V"⟩ : MethodName) prog_30_method_2_code 2 none :: ws) ({ frames := 0, cells := 0, slots := 0, locals := 0 } : Room)) (fun a U => a = #[(.ref a1), (.int p2)] ∧ Z.Warmed39 U.vm ∧ U.heap = h0) (fun _ _ _ _ _ => True) (fun _ U o U' => ∃ v L, o = .returned v ∧ Q6 Z a1 p2 P A h0 n0 v U'.heap L ∧ FrameEnd U o U' L ({ frames := 0, cells := 0, slots := 0, locals := 0 } : Room).cells ({ frames := 0, cells := 0, slots := 0, locals := 0 } : Room).slots) := by
  refine MetFree.of_bodySF (plainFor_of_name pn_0) hisR ?_
  intro p e s m args below meth c s₁ Bd hml0 hP hK
  obtain ⟨rfl, hZ, hh⟩ := hP
  have hx := Bd.exec
  have hby := Bd.bytes
  have hml : c.maxLocals = 2 := hml0
  have hown : s.vm.findClass "com/example/clockwright/clockwright/mcmc/Acceptance" = some m.cls := findClass_of_methodNamed Bd.named
  have hnm := (name_of_methodNamed Bd.named Bd.method).1
  have X0 : Stand p l e ({ frames := 0, cells := 0, slots := 0, locals := 0 } : Room) s m #[(.ref a1), (.int p2)] below meth c s₁ [] 0 0 := Stand.of_body Bd
  have e0 : s₁.heap = h0 := by rw [← hh, Bd.state]; rfl
  have N0 := Fr.nil n0
  have pre0 : ∀ tg, Steps p.tables e below (s₁.setTop (mkF m 0 #[rv a1, iv p2] [])) tg → Steps p.tables e below (s₁.setTop (entryFrame m #[(.ref a1), (.int p2)] 2)) tg := fun tg k => castTop (ef_6 m a1 p2) k
  obtain ⟨T1, X1, e1, st1⟩ := getF X0 hx hZ hown (host := "") (Or.inl (hw _ (List.mem_of_getElem? (i := 15) rfl))) Via.refl e0 F_p (g := (mkF m 2 #[rv a1, iv p2] [(.ref a1), (.ref a1)])) rfl rfl (hb hby d6_2)
  obtain ⟨T2, h2, X2, e2, W2, st2⟩ := putF X1 hx hZ hown (host := "") (Or.inl (hw _ (List.mem_of_getElem? (i := 15) rfl))) Via.refl e1 F_p E_a1 (Or.inl (hw _ (List.mem_of_getElem? (i := 16) rfl))) (hw _ (List.mem_of_getElem? (i := 2) rfl)) (ty := .long) (by decide) rfl rfl (g := (mkF m 7 #[rv a1, iv p2] [(.long (P + (1 : Int64))), (.ref a1)])) rfl rfl (hb hby d6_7)
  have Fw2 := F_p.same W2
  have N2 := Fr.snoc X2 N0 g_a1
  have pre4 : ∀ tg, own_S p e below T2 m 11 #[rv a1, iv p2] [(.int p2)] tg → Steps p.tables e below (s₁.setTop (entryFrame m #[(.ref a1), (.int p2)] 2)) tg := fun tg k => pre0 tg (by
    show own_S p e below s₁ m 0 #[rv a1, iv p2] [] _
    refine XS.aloadN X0.here hx rfl (hb hby d6_0) rfl rfl ?_
    show own_S p e below s₁ m 1 #[rv a1, iv p2] [(.ref a1)] _
    refine XS.dup X0.here hx rfl (hb hby d6_1) rfl rfl ?_
    show own_S p e below s₁ m 2 #[rv a1, iv p2] [(.ref a1), (.ref a1)] _
    refine st1 _ ?_
    show own_S p e below T1 m 5 #[rv a1, iv p2] [(.long P), (.ref a1)] _
    refine XS.lconst X1.here hx rfl (hb hby d6_5) ?_
    show own_S p e below T1 m 6 #[rv a1, iv p2] [(.long (1 : Int64)), (.long P), (.ref a1)] _
    refine XS.ladd X1.here hx rfl (hb hby d6_6) rfl ?_
    show own_S p e below T1 m 7 #[rv a1, iv p2] [(.long (P + (1 : Int64))), (.ref a1)] _
    refine st2 _ ?_
    show own_S p e below T2 m 10 #[rv a1, iv p2] [] _
    refine XS.iloadN X2.here hx rfl (hb hby d6_10) rfl ?_
    exact k)
  by_cases hc11_3 : p2 = (0 : Int32)
  ·  -- pc 11 yes
    have pre5 : ∀ tg, own_S p e below T2 m 24 #[rv a1, iv p2] [] tg → Steps p.tables e below (s₁.setTop (entryFrame m #[(.ref a1), (.int p2)] 2)) tg := fun tg k => pre4 tg (by
      show own_S p e below T2 m 11 #[rv a1, iv p2] [(.int p2)] _
      refine XS.ifYes X2.here hx rfl (pc0 := 11) (pc' := 24) rfl (hb hby d6_11) rfl ((if0 _ _).trans (teq hc11_3).1) (by decide) (by decide) ?_
      exact k)
    obtain ⟨fs, hr, hrun, hended, hW, hsame⟩ := X2.leave (v := none) (fun _ => rfl)
    refine ⟨_, _, pre5 _ ?_, hrun, hended, _, _, rfl, ?_, ⟨_, rfl⟩, hW, hsame.mono (by decide) (by decide)⟩
    · show own_S p e below T2 m 24 #[rv a1, iv p2] [] _
      exact X2.returnOut hx Bd.returns (hb hby d6_24) hr
    · show Q6 Z a1 p2 P A h0 n0 _ T2.heap _
      rw [e2]
      have Fn_6 := (F_a.other W2 (Or.inr (slot_ne (Or.inl (hw _ (List.mem_of_getElem? (i := 29) rfl))) (Or.inl (hw _ (List.mem_of_getElem? (i := 16) rfl))) (by decide) (t := .long) (t' := .long) (by decide) (by decide))))
      have En_7 := (E_a1.wr W2)
      refine ⟨rfl, N2, ((Keep.refl h0 [a1]).wr W2 (Or.inl (List.mem_of_getElem? (i := 0) rfl))), En_7, Fw2, ?_⟩
      rw [show A + own_one p2 = A from by simp [own_one, hc11_3]]
      exact Fn_6
  ·  -- pc 11 no
    have Fn_8 := (F_a.other W2 (Or.inr (slot_ne (Or.inl (hw _ (List.mem_of_getElem? (i := 29) rfl))) (Or.inl (hw _ (List.mem_of_getElem? (i := 16) rfl))) (by decide) (t := .long) (t' := .long) (by decide) (by decide))))
    obtain ⟨T9, X9, e9, st9⟩ := getF X2 hx hZ hown (host := "") (Or.inl (hw _ (List.mem_of_getElem? (i := 28) rfl))) Via.refl e2 Fn_8 (g := (mkF m 16 #[rv a1, iv p2] [(.ref a1), (.ref a1)])) rfl rfl (hb hby d6_16)
    have En_10 := (E_a1.wr W2)
    obtain ⟨T11, h11, X11, e11, W11, st11⟩ := putF X9 hx hZ hown (host := "") (Or.inl (hw _ (List.mem_of_getElem? (i := 28) rfl))) Via.refl e9 Fn_8 En_10 (Or.inl (hw _ (List.mem_of_getElem? (i := 29) rfl))) (hw _ (List.mem_of_getElem? (i := 2) rfl)) (ty := .long) (by decide) rfl rfl (g := (mkF m 21 #[rv a1, iv p2] [(.long (A + (1 : Int64))), (.ref a1)])) rfl rfl (hb hby d6_21)
    have Fw11 := Fn_8.same W11
    have N11 := Fr.snoc X11 N2 g_a1
    have pre12 : ∀ tg, own_S p e below T11 m 24 #[rv a1, iv p2] [] tg → Steps p.tables e below (s₁.setTop (entryFrame m #[(.ref a1), (.int p2)] 2)) tg := fun tg k => pre4 tg (by
      show own_S p e below T2 m 11 #[rv a1, iv p2] [(.int p2)] _
      refine XS.ifNo X2.here hx rfl (hb hby d6_11) rfl ((if0 _ _).trans (feq hc11_3).1) ?_
      show own_S p e below T2 m 14 #[rv a1, iv p2] [] _
      refine XS.aloadN X2.here hx rfl (hb hby d6_14) rfl rfl ?_
      show own_S p e below T2 m 15 #[rv a1, iv p2] [(.ref a1)] _
      refine XS.dup X2.here hx rfl (hb hby d6_15) rfl rfl ?_
      show own_S p e below T2 m 16 #[rv a1, iv p2] [(.ref a1), (.ref a1)] _
      refine st9 _ ?_
      show own_S p e below T9 m 19 #[rv a1, iv p2] [(.long A), (.ref a1)] _
      refine XS.lconst X9.here hx rfl (hb hby d6_19) ?_
      show own_S p e below T9 m 20 #[rv a1, iv p2] [(.long (1 : Int64)), (.long A), (.ref a1)] _
      refine XS.ladd X9.here hx rfl (hb hby d6_20) rfl ?_
      show own_S p e below T9 m 21 #[rv a1, iv p2] [(.long (A + (1 : Int64))), (.ref a1)] _
      refine st11 _ ?_
      exact k)
    obtain ⟨fs, hr, hrun, hended, hW, hsame⟩ := X11.leave (v := none) (fun _ => rfl)
    refine ⟨_, _, pre12 _ ?_, hrun, hended, _, _, rfl, ?_, ⟨_, rfl⟩, hW, hsame.mono (by decide) (by decide)⟩
    · show own_S p e below T11 m 24 #[rv a1, iv p2] [] _
      exact X11.returnOut hx Bd.returns (hb hby d6_24) hr
    · show Q6 Z a1 p2 P A h0 n0 _ T11.heap _
      rw [e11]
      have Fn_13 := (Fw2.other W11 (Or.inr (slot_ne (Or.inl (hw _ (List.mem_of_getElem? (i := 16) rfl))) (Or.inl (hw _ (List.mem_of_getElem? (i := 29) rfl))) (by decide) (t := .long) (t' := .long) (by decide) (by decide))))
      have En_14 := (En_10.wr W11)
      refine ⟨rfl, N11, (((Keep.refl h0 [a1]).wr W2 (Or.inl (List.mem_of_getElem? (i := 0) rfl))).wr W11 (Or.inl (List.mem_of_getElem? (i := 0) rfl))), En_14, Fn_13, ?_⟩
      rw [show A + own_one p2 = (A + (1 : Int64)) from by simp [own_one, hc11_3]]
      exact Fw11
theorem ef_4 (m : MethodId) (a1 : Addr) : entryFrame m #[(.ref a1)] 1 = mkF m 0 #[rv a1] [] := by first | (simp [entryFrame, mkF, argsToLocals, Value.category]; done) | rfl
def Q4 (Z : State) (a1 : Addr) (P : Int64) (h0 : Heap) (n0 : Nat) (v : Option Value) (h : Heap) (L : List Loc) : Prop := v = some (.long P) ∧ Fr n0 L ∧ h = h0
theorem d4_0 : decode prog_30_method_5_code 0 = .ok (.aload_n 0, 1) := by decide +kernel
theorem d4_1 : decode prog_30_method_5_code 1 = .ok (.getfield 7, 3) := by decide +kernel
theorem d4_4 : decode prog_30_method_5_code 4 = .ok (.lreturn, 1) := by decide +kernel
set_option maxRecDepth 65536 in
set_option maxHeartbeats 40000000 in
theorem rm4 (l : Launch) (Z : State) (a0 : Array Value) (hw : ∀ d ∈ tables_1, d.before a0 Z = true) (ws : List Jvm.Cond) (a1 : Addr) (P : Int64) (h0 : Heap) (n0 : Nat) (Z0 : n0 ≤ h0.size) (F_p : Fld Z h0 a1 "com/example/clockwright/clockwright/mcmc/Acceptance" "proposals" "J" (.long P)) :
    MetFree l (⟨"com/example/clockwright/clockwright/mcmc/Acceptance", "proposals", "()J"⟩ : MethodName) (head1 (Jvm.Cond.code (⟨"com/example/clockwright/clockwright/mcmc/Acceptance", "proposals", "()J"⟩ : MethodName) prog_30_method_5_code 1 (some .long) :: ws) ({ frames := 0, cells := 0, slots := 0, locals := 0 } : Room)) (fun a U => a = #[(.ref a1)] ∧ Z.Warmed39 U.vm ∧ U.heap = h0) (fun _ _ _ _ _ => True) (fun _ U o U' => ∃ v L, o = .returned v ∧ Q4 Z a1 P h0 n0 v U'.heap L ∧ FrameEnd U o U' L ({ frames := 0, cells := 0, slots := 0, locals := 0 } : Room).cells ({ frames := 0, cells := 0, slots := 0, locals := 0 } : Room).slots) := by
  refine MetFree.of_bodySF (plainFor_of_name pn_0) hisR ?_
  intro p e s m args below meth c s₁ Bd hml0 hP hK
  obtain ⟨rfl, hZ, hh⟩ := hP
  have hx := Bd.exec
  have hby := Bd.bytes
  have hml : c.maxLocals = 1 := hml0
  have hown : s.vm.findClass "com/example/clockwright/clockwright/mcmc/Acceptance" = some m.cls := findClass_of_methodNamed Bd.named
  have hnm := (name_of_methodNamed Bd.named Bd.method).1
  have X0 : Stand p l e ({ frames := 0, cells := 0, slots := 0, locals := 0 } : Room) s m #[(.ref a1)] below meth c s₁ [] 0 0 := Stand.of_body Bd
  have e0 : s₁.heap = h0 := by rw [← hh, Bd.state]; rfl
  have N0 := Fr.nil n0
  have pre0 : ∀ tg, Steps p.tables e below (s₁.setTop (mkF m 0 #[rv a1] [])) tg → Steps p.tables e below (s₁.setTop (entryFrame m #[(.ref a1)] 1)) tg := fun tg k => castTop (ef_4 m a1) k
  obtain ⟨T1, X1, e1, st1⟩ := getF X0 hx hZ hown (host := "") (Or.inl (hw _ (List.mem_of_getElem? (i := 15) rfl))) Via.refl e0 F_p (g := (mkF m 1 #[rv a1] [(.ref a1)])) rfl rfl (hb hby d4_1)
  have pre2 : ∀ tg, own_S p e below T1 m 4 #[rv a1] [(.long P)] tg → Steps p.tables e below (s₁.setTop (entryFrame m #[(.ref a1)] 1)) tg := fun tg k => pre0 tg (by
    show own_S p e below s₁ m 0 #[rv a1] [] _
    refine XS.aloadN X0.here hx rfl (hb hby d4_0) rfl rfl ?_
    show own_S p e below s₁ m 1 #[rv a1] [(.ref a1)] _
    refine st1 _ ?_
    exact k)
  obtain ⟨fs, hr, hrun, hended, hW, hsame⟩ := X1.leave (v := some (.long P)) (fun h => by rw [Bd.returns] at h; cases h)
  refine ⟨_, _, pre2 _ ?_, hrun, hended, _, _, rfl, ?_, ⟨_, rfl⟩, hW, hsame.mono (by decide) (by decide)⟩
  · show own_S p e below T1 m 4 #[rv a1] [(.long P)] _
    exact retOut X1 hx (t := .long) Bd.returns rfl (Or.inr (Or.inl ⟨rfl, rfl, _, rfl⟩)) (hb hby d4_4) hr
  · show Q4 Z a1 P h0 n0 _ T1.heap _
    rw [e1]
    exact ⟨rfl, N0, rfl⟩
theorem ef_5 (m : MethodId) (a1 : Addr) : entryFrame m #[(.ref a1)] 1 = mkF m 0 #[rv a1] [] := by first | (simp [entryFrame, mkF, argsToLocals, Value.category]; done) | rfl
def Q5 (Z : State) (a1 : Addr) (P : Int64) (h0 : Heap) (n0 : Nat) (v : Option Value) (h : Heap) (L : List Loc) : Prop := v = some (.long P) ∧ Fr n0 L ∧ h = h0
theorem d5_0 : decode prog_30_method_6_code 0 = .ok (.aload_n 0, 1) := by decide +kernel
theorem d5_1 : decode prog_30_method_6_code 1 = .ok (.getfield 13, 3) := by decide +kernel
theorem d5_4 : decode prog_30_method_6_code 4 = .ok (.lreturn, 1) := by decide +kernel
set_option maxRecDepth 65536 in
set_option maxHeartbeats 40000000 in
theorem rm5 (l : Launch) (Z : State) (a0 : Array Value) (hw : ∀ d ∈ tables_1, d.before a0 Z = true) (ws : List Jvm.Cond) (a1 : Addr) (P : Int64) (h0 : Heap) (n0 : Nat) (Z0 : n0 ≤ h0.size) (F_p : Fld Z h0 a1 "com/example/clockwright/clockwright/mcmc/Acceptance" "accepted" "J" (.long P)) :
    MetFree l (⟨"com/example/clockwright/clockwright/mcmc/Acceptance", "accepted", "()J"⟩ : MethodName) (head1 (Jvm.Cond.code (⟨"com/example/clockwright/clockwright/mcmc/Acceptance", "accepted", "()J"⟩ : MethodName) prog_30_method_6_code 1 (some .long) :: ws) ({ frames := 0, cells := 0, slots := 0, locals := 0 } : Room)) (fun a U => a = #[(.ref a1)] ∧ Z.Warmed39 U.vm ∧ U.heap = h0) (fun _ _ _ _ _ => True) (fun _ U o U' => ∃ v L, o = .returned v ∧ Q5 Z a1 P h0 n0 v U'.heap L ∧ FrameEnd U o U' L ({ frames := 0, cells := 0, slots := 0, locals := 0 } : Room).cells ({ frames := 0, cells := 0, slots := 0, locals := 0 } : Room).slots) := by
  refine MetFree.of_bodySF (plainFor_of_name pn_0) hisR ?_
  intro p e s m args below meth c s₁ Bd hml0 hP hK
  obtain ⟨rfl, hZ, hh⟩ := hP
  have hx := Bd.exec
  have hby := Bd.bytes
  have hml : c.maxLocals = 1 := hml0
  have hown : s.vm.findClass "com/example/clockwright/clockwright/mcmc/Acceptance" = some m.cls := findClass_of_methodNamed Bd.named
  have hnm := (name_of_methodNamed Bd.named Bd.method).1
  have X0 : Stand p l e ({ frames := 0, cells := 0, slots := 0, locals := 0 } : Room) s m #[(.ref a1)] below meth c s₁ [] 0 0 := Stand.of_body Bd
  have e0 : s₁.heap = h0 := by rw [← hh, Bd.state]; rfl
  have N0 := Fr.nil n0
  have pre0 : ∀ tg, Steps p.tables e below (s₁.setTop (mkF m 0 #[rv a1] [])) tg → Steps p.tables e below (s₁.setTop (entryFrame m #[(.ref a1)] 1)) tg := fun tg k => castTop (ef_5 m a1) k
  obtain ⟨T1, X1, e1, st1⟩ := getF X0 hx hZ hown (host := "") (Or.inl (hw _ (List.mem_of_getElem? (i := 28) rfl))) Via.refl e0 F_p (g := (mkF m 1 #[rv a1] [(.ref a1)])) rfl rfl (hb hby d5_1)
  have pre2 : ∀ tg, own_S p e below T1 m 4 #[rv a1] [(.long P)] tg → Steps p.tables e below (s₁.setTop (entryFrame m #[(.ref a1)] 1)) tg := fun tg k => pre0 tg (by
    show own_S p e below s₁ m 0 #[rv a1] [] _
    refine XS.aloadN X0.here hx rfl (hb hby d5_0) rfl rfl ?_
    show own_S p e below s₁ m 1 #[rv a1] [(.ref a1)] _
    refine st1 _ ?_
    exact k)
  obtain ⟨fs, hr, hrun, hended, hW, hsame⟩ := X1.leave (v := some (.long P)) (fun h => by rw [Bd.returns] at h; cases h)
  refine ⟨_, _, pre2 _ ?_, hrun, hended, _, _, rfl, ?_, ⟨_, rfl⟩, hW, hsame.mono (by decide) (by decide)⟩
  · show own_S p e below T1 m 4 #[rv a1] [(.long P)] _
    exact retOut X1 hx (t := .long) Bd.returns rfl (Or.inr (Or.inl ⟨rfl, rfl, _, rfl⟩)) (hb hby d5_4) hr
  · show Q5 Z a1 P h0 n0 _ T1.heap _
    rw [e1]
    exact ⟨rfl, N0, rfl⟩
theorem ef_R0 (m : MethodId) (a1 : Addr) : entryFrame m #[(.ref a1)] 1 = mkF m 0 #[rv a1] [] := by first | (simp [entryFrame, mkF, argsToLocals, Value.category]; done) | rfl
def QR0 (Z : State) (a1 : Addr) (h0 : Heap) (n0 : Nat) (v : Option Value) (h : Heap) (L : List Loc) : Prop := v = some (.double (9221120237041090560 : UInt64)) ∧ Fr n0 L ∧ h = h0
theorem d3_0 : decode prog_30_method_7_code 0 = .ok (.aload_n 0, 1) := by decide +kernel
theorem d3_1 : decode prog_30_method_7_code 1 = .ok (.getfield 7, 3) := by decide +kernel
theorem d3_4 : decode prog_30_method_7_code 4 = .ok (.lconst 0, 1) := by decide +kernel
theorem d3_5 : decode prog_30_method_7_code 5 = .ok (.lcmp, 1) := by decide +kernel
theorem d3_6 : decode prog_30_method_7_code 6 = .ok (.ifCond .ne 9, 3) := by decide +kernel
theorem d3_9 : decode prog_30_method_7_code 9 = .ok (.ldc2_w 30, 3) := by decide +kernel
theorem d3_12 : decode prog_30_method_7_code 12 = .ok (.goto 14, 3) := by decide +kernel
theorem d3_26 : decode prog_30_method_7_code 26 = .ok (.dreturn, 1) := by decide +kernel
set_option maxRecDepth 65536 in
set_option maxHeartbeats 40000000 in
theorem rmR0 (l : Launch) (Z : State) (a0 : Array Value) (hw : ∀ d ∈ tables_1, d.before a0 Z = true) (ws : List Jvm.Cond) (a1 : Addr) (h0 : Heap) (n0 : Nat) (Z0 : n0 ≤ h0.size) (F_p : Fld Z h0 a1 "com/example/clockwright/clockwright/mcmc/Acceptance" "proposals" "J" (.long (0 : Int64))) :
    MetFree l (⟨"com/example/clockwright/clockwright/mcmc/Acceptance", "rate", "()D"⟩ : MethodName) (head1 (Jvm.Cond.code (⟨"com/example/clockwright/clockwright/mcmc/Acceptance", "rate", "()D"⟩ : MethodName) prog_30_method_7_code 1 (some .double) :: ws) ({ frames := 0, cells := 0, slots := 0, locals := 0 } : Room)) (fun a U => a = #[(.ref a1)] ∧ Z.Warmed39 U.vm ∧ U.heap = h0) (fun _ _ _ _ _ => True) (fun _ U o U' => ∃ v L, o = .returned v ∧ QR0 Z a1 h0 n0 v U'.heap L ∧ FrameEnd U o U' L ({ frames := 0, cells := 0, slots := 0, locals := 0 } : Room).cells ({ frames := 0, cells := 0, slots := 0, locals := 0 } : Room).slots) := by
  refine MetFree.of_bodySF (plainFor_of_name pn_0) hisR ?_
  intro p e s m args below meth c s₁ Bd hml0 hP hK
  obtain ⟨rfl, hZ, hh⟩ := hP
  have hx := Bd.exec
  have hby := Bd.bytes
  have hml : c.maxLocals = 1 := hml0
  have hown : s.vm.findClass "com/example/clockwright/clockwright/mcmc/Acceptance" = some m.cls := findClass_of_methodNamed Bd.named
  have hnm := (name_of_methodNamed Bd.named Bd.method).1
  have X0 : Stand p l e ({ frames := 0, cells := 0, slots := 0, locals := 0 } : Room) s m #[(.ref a1)] below meth c s₁ [] 0 0 := Stand.of_body Bd
  have e0 : s₁.heap = h0 := by rw [← hh, Bd.state]; rfl
  have N0 := Fr.nil n0
  have pre0 : ∀ tg, Steps p.tables e below (s₁.setTop (mkF m 0 #[rv a1] [])) tg → Steps p.tables e below (s₁.setTop (entryFrame m #[(.ref a1)] 1)) tg := fun tg k => castTop (ef_R0 m a1) k
  obtain ⟨T1, X1, e1, st1⟩ := getF X0 hx hZ hown (host := "") (Or.inl (hw _ (List.mem_of_getElem? (i := 15) rfl))) Via.refl e0 F_p (g := (mkF m 1 #[rv a1] [(.ref a1)])) rfl rfl (hb hby d3_1)
  have pre2 : ∀ tg, own_S p e below T1 m 26 #[rv a1] [(.double (9221120237041090560 : UInt64))] tg → Steps p.tables e below (s₁.setTop (entryFrame m #[(.ref a1)] 1)) tg := fun tg k => pre0 tg (by
    show own_S p e below s₁ m 0 #[rv a1] [] _
    refine XS.aloadN X0.here hx rfl (hb hby d3_0) rfl rfl ?_
    show own_S p e below s₁ m 1 #[rv a1] [(.ref a1)] _
    refine st1 _ ?_
    show own_S p e below T1 m 4 #[rv a1] [(.long (0 : Int64))] _
    refine XS.lconst X1.here hx rfl (hb hby d3_4) ?_
    show own_S p e below T1 m 5 #[rv a1] [(.long (0 : Int64)), (.long (0 : Int64))] _
    refine XS.lcmp X1.here hx rfl (hb hby d3_5) rfl ?_
    show own_S p e below T1 m 6 #[rv a1] [(.int (lcmpW (0 : Int64) (0 : Int64)))] _
    refine XS.ifNo X1.here hx rfl (hb hby d3_6) rfl ((if0 _ _).trans (teq ((lw_eq _ _).mpr (by decide : (0 : Int64) = (0 : Int64)))).2) ?_
    show own_S p e below T1 m 9 #[rv a1] [] _
    refine X1.ldc2DoubleC hx hown (mvT hZ (hw _ (List.mem_of_getElem? (i := 17) rfl))) (g := (mkF m 9 #[rv a1] [])) rfl (hb hby d3_9) _ ?_
    show own_S p e below T1 m 12 #[rv a1] [(.double (9221120237041090560 : UInt64))] _
    refine XS.goto X1.here hx rfl (pc0 := 12) (pc' := 26) rfl (hb hby d3_12) (by decide) (by decide) ?_
    exact k)
  obtain ⟨fs, hr, hrun, hended, hW, hsame⟩ := X1.leave (v := some (.double (9221120237041090560 : UInt64))) (fun h => by rw [Bd.returns] at h; cases h)
  refine ⟨_, _, pre2 _ ?_, hrun, hended, _, _, rfl, ?_, ⟨_, rfl⟩, hW, hsame.mono (by decide) (by decide)⟩
  · show own_S p e below T1 m 26 #[rv a1] [(.double (9221120237041090560 : UInt64))] _
    exact retOut X1 hx (t := .double) Bd.returns rfl (Or.inr (Or.inr (Or.inl ⟨rfl, rfl, _, rfl⟩))) (hb hby d3_26) hr
  · show QR0 Z a1 h0 n0 _ T1.heap _
    rw [e1]
    exact ⟨rfl, N0, rfl⟩
theorem ef_R1 (m : MethodId) (a1 : Addr) : entryFrame m #[(.ref a1)] 1 = mkF m 0 #[rv a1] [] := by first | (simp [entryFrame, mkF, argsToLocals, Value.category]; done) | rfl
def QR1 (Z : State) (a1 : Addr) (P : Int64) (A : Int64) (h0 : Heap) (n0 : Nat) (v : Option Value) (h : Heap) (L : List Loc) : Prop := v = some (.double (FP.ddiv (FP.l2d A) (FP.l2d P))) ∧ Fr n0 L ∧ h = h0
theorem d3_15 : decode prog_30_method_7_code 15 = .ok (.aload_n 0, 1) := by decide +kernel
theorem d3_16 : decode prog_30_method_7_code 16 = .ok (.getfield 13, 3) := by decide +kernel
theorem d3_19 : decode prog_30_method_7_code 19 = .ok (.l2d, 1) := by decide +kernel
theorem d3_20 : decode prog_30_method_7_code 20 = .ok (.aload_n 0, 1) := by decide +kernel
theorem d3_21 : decode prog_30_method_7_code 21 = .ok (.getfield 7, 3) := by decide +kernel
theorem d3_24 : decode prog_30_method_7_code 24 = .ok (.l2d, 1) := by decide +kernel
theorem d3_25 : decode prog_30_method_7_code 25 = .ok (.ddiv, 1) := by decide +kernel
set_option maxRecDepth 65536 in
set_option maxHeartbeats 40000000 in
theorem rmR1 (l : Launch) (Z : State) (a0 : Array Value) (hw : ∀ d ∈ tables_1, d.before a0 Z = true) (ws : List Jvm.Cond) (a1 : Addr) (P : Int64) (A : Int64) (h0 : Heap) (n0 : Nat) (Z0 : n0 ≤ h0.size) (F_p : Fld Z h0 a1 "com/example/clockwright/clockwright/mcmc/Acceptance" "proposals" "J" (.long P)) (F_a : Fld Z h0 a1 "com/example/clockwright/clockwright/mcmc/Acceptance" "accepted" "J" (.long A)) (hP : ¬ P = (0 : Int64)) (hnn : Jvm.Free.Fl.NoNaN64 (FP.ddiv (FP.l2d A) (FP.l2d P))) :
    MetFree l (⟨"com/example/clockwright/clockwright/mcmc/Acceptance", "rate", "()D"⟩ : MethodName) (head1 (Jvm.Cond.code (⟨"com/example/clockwright/clockwright/mcmc/Acceptance", "rate", "()D"⟩ : MethodName) prog_30_method_7_code 1 (some .double) :: ws) ({ frames := 0, cells := 0, slots := 0, locals := 0 } : Room)) (fun a U => a = #[(.ref a1)] ∧ Z.Warmed39 U.vm ∧ U.heap = h0) (fun _ _ _ _ _ => True) (fun _ U o U' => ∃ v L, o = .returned v ∧ QR1 Z a1 P A h0 n0 v U'.heap L ∧ FrameEnd U o U' L ({ frames := 0, cells := 0, slots := 0, locals := 0 } : Room).cells ({ frames := 0, cells := 0, slots := 0, locals := 0 } : Room).slots) := by
  refine MetFree.of_bodySF (plainFor_of_name pn_0) hisR ?_
  intro p e s m args below meth c s₁ Bd hml0 hP hK
  obtain ⟨rfl, hZ, hh⟩ := hP
  have hx := Bd.exec
  have hby := Bd.bytes
  have hml : c.maxLocals = 1 := hml0
  have hown : s.vm.findClass "com/example/clockwright/clockwright/mcmc/Acceptance" = some m.cls := findClass_of_methodNamed Bd.named
  have hnm := (name_of_methodNamed Bd.named Bd.method).1
  have X0 : Stand p l e ({ frames := 0, cells := 0, slots := 0, locals := 0 } : Room) s m #[(.ref a1)] below meth c s₁ [] 0 0 := Stand.of_body Bd
  have e0 : s₁.heap = h0 := by rw [← hh, Bd.state]; rfl
  have N0 := Fr.nil n0
  have pre0 : ∀ tg, Steps p.tables e below (s₁.setTop (mkF m 0 #[rv a1] [])) tg → Steps p.tables e below (s₁.setTop (entryFrame m #[(.ref a1)] 1)) tg := fun tg k => castTop (ef_R1 m a1) k
  obtain ⟨T1, X1, e1, st1⟩ := getF X0 hx hZ hown (host := "") (Or.inl (hw _ (List.mem_of_getElem? (i := 15) rfl))) Via.refl e0 F_p (g := (mkF m 1 #[rv a1] [(.ref a1)])) rfl rfl (hb hby d3_1)
  obtain ⟨T2, X2, e2, st2⟩ := getF X1 hx hZ hown (host := "") (Or.inl (hw _ (List.mem_of_getElem? (i := 28) rfl))) Via.refl e1 F_a (g := (mkF m 16 #[rv a1] [(.ref a1)])) rfl rfl (hb hby d3_16)
  obtain ⟨T3, X3, e3, st3⟩ := getF X2 hx hZ hown (host := "") (Or.inl (hw _ (List.mem_of_getElem? (i := 15) rfl))) Via.refl e2 F_p (g := (mkF m 21 #[rv a1] [(.ref a1), (.double (FP.l2d A))])) rfl rfl (hb hby d3_21)
  have pre4 : ∀ tg, own_S p e below T3 m 26 #[rv a1] [(.double (FP.ddiv (FP.l2d A) (FP.l2d P)))] tg → Steps p.tables e below (s₁.setTop (entryFrame m #[(.ref a1)] 1)) tg := fun tg k => pre0 tg (by
    show own_S p e below s₁ m 0 #[rv a1] [] _
    refine XS.aloadN X0.here hx rfl (hb hby d3_0) rfl rfl ?_
    show own_S p e below s₁ m 1 #[rv a1] [(.ref a1)] _
    refine st1 _ ?_
    show own_S p e below T1 m 4 #[rv a1] [(.long P)] _
    refine XS.lconst X1.here hx rfl (hb hby d3_4) ?_
    show own_S p e below T1 m 5 #[rv a1] [(.long (0 : Int64)), (.long P)] _
    refine XS.lcmp X1.here hx rfl (hb hby d3_5) rfl ?_
    show own_S p e below T1 m 6 #[rv a1] [(.int (lcmpW P (0 : Int64)))] _
    refine XS.ifYes X1.here hx rfl (pc0 := 6) (pc' := 15) rfl (hb hby d3_6) rfl ((if0 _ _).trans (feq (fun q => hP ((lw_eq _ _).mp q))).2) (by decide) (by decide) ?_
    show own_S p e below T1 m 15 #[rv a1] [] _
    refine XS.aloadN X1.here hx rfl (hb hby d3_15) rfl rfl ?_
    show own_S p e below T1 m 16 #[rv a1] [(.ref a1)] _
    refine st2 _ ?_
    show own_S p e below T2 m 19 #[rv a1] [(.long A)] _
    refine XS.l2dS X2.here hx rfl (hb hby d3_19) rfl rfl ?_
    show own_S p e below T2 m 20 #[rv a1] [(.double (FP.l2d A))] _
    refine XS.aloadN X2.here hx rfl (hb hby d3_20) rfl rfl ?_
    show own_S p e below T2 m 21 #[rv a1] [(.ref a1), (.double (FP.l2d A))] _
    refine st3 _ ?_
    show own_S p e below T3 m 24 #[rv a1] [(.long P), (.double (FP.l2d A))] _
    refine XS.l2dS X3.here hx rfl (hb hby d3_24) rfl rfl ?_
    show own_S p e below T3 m 25 #[rv a1] [(.double (FP.l2d P)), (.double (FP.l2d A))] _
    refine XS.ddivS X3.here hx rfl (hb hby d3_25) rfl hnn (v := (FP.ddiv (FP.l2d A) (FP.l2d P))) rfl ?_
    exact k)
  obtain ⟨fs, hr, hrun, hended, hW, hsame⟩ := X3.leave (v := some (.double (FP.ddiv (FP.l2d A) (FP.l2d P)))) (fun h => by rw [Bd.returns] at h; cases h)
  refine ⟨_, _, pre4 _ ?_, hrun, hended, _, _, rfl, ?_, ⟨_, rfl⟩, hW, hsame.mono (by decide) (by decide)⟩
  · show own_S p e below T3 m 26 #[rv a1] [(.double (FP.ddiv (FP.l2d A) (FP.l2d P)))] _
    exact retOut X3 hx (t := .double) Bd.returns rfl (Or.inr (Or.inr (Or.inl ⟨rfl, rfl, _, rfl⟩))) (hb hby d3_26) hr
  · show QR1 Z a1 P A h0 n0 _ T3.heap _
    rw [e3]
    exact ⟨rfl, N0, rfl⟩
def own_exp (p a : Int32) : UInt64 := if a = 0 then 0 else if a = p then 4607182418800017408 else if p = 2 then 4602678819172646912 else if p = 3 then (if a = 1 then 4599676419421066581 else 4604180019048437077) else if a = 2 then 4602678819172646912 else if a = 1 then 4598175219545276416 else 4604930618986332160
theorem pn_1 : plainName "com/example/clockwright/clockwright/mcmc/AcceptanceRatePinLaw" = true := by first | (simp [plainName, overriddenIn]; done) | decide +kernel
theorem ef_7 (m : MethodId) (p1 : Int32) (p2 : Int32) : entryFrame m #[(.int p1), (.int p2)] 2 = mkF m 0 #[iv p1, iv p2] [] := by first | (simp [entryFrame, mkF, argsToLocals, Value.category]; done) | rfl
def Q7 (Z : State) (p1 : Int32) (p2 : Int32) (h0 : Heap) (n0 : Nat) (v : Option Value) (h : Heap) (L : List Loc) : Prop := v = some (.double (own_exp p1 p2)) ∧ Fr n0 L ∧ h = h0
theorem d7_0 : decode method_3_code 0 = .ok (.iload_n 1, 1) := by decide +kernel
theorem d7_1 : decode method_3_code 1 = .ok (.ifCond .ne 5, 3) := by decide +kernel
theorem d7_4 : decode method_3_code 4 = .ok (.dconst 0, 1) := by decide +kernel
theorem d7_5 : decode method_3_code 5 = .ok (.dreturn, 1) := by decide +kernel
theorem d7_6 : decode method_3_code 6 = .ok (.iload_n 1, 1) := by decide +kernel
theorem d7_7 : decode method_3_code 7 = .ok (.iload_n 0, 1) := by decide +kernel
theorem d7_8 : decode method_3_code 8 = .ok (.if_icmp .ne 5, 3) := by decide +kernel
theorem d7_11 : decode method_3_code 11 = .ok (.dconst 1, 1) := by decide +kernel
theorem d7_12 : decode method_3_code 12 = .ok (.dreturn, 1) := by decide +kernel
theorem d7_13 : decode method_3_code 13 = .ok (.iload_n 0, 1) := by decide +kernel
theorem d7_14 : decode method_3_code 14 = .ok (.iconst 2, 1) := by decide +kernel
theorem d7_15 : decode method_3_code 15 = .ok (.if_icmp .ne 7, 3) := by decide +kernel
theorem d7_18 : decode method_3_code 18 = .ok (.ldc2_w 32, 3) := by decide +kernel
theorem d7_21 : decode method_3_code 21 = .ok (.dreturn, 1) := by decide +kernel
theorem d7_22 : decode method_3_code 22 = .ok (.iload_n 0, 1) := by decide +kernel
theorem d7_23 : decode method_3_code 23 = .ok (.iconst 3, 1) := by decide +kernel
theorem d7_24 : decode method_3_code 24 = .ok (.if_icmp .ne 18, 3) := by decide +kernel
theorem d7_27 : decode method_3_code 27 = .ok (.iload_n 1, 1) := by decide +kernel
theorem d7_28 : decode method_3_code 28 = .ok (.iconst 1, 1) := by decide +kernel
theorem d7_29 : decode method_3_code 29 = .ok (.if_icmp .ne 9, 3) := by decide +kernel
theorem d7_32 : decode method_3_code 32 = .ok (.ldc2_w 34, 3) := by decide +kernel
theorem d7_35 : decode method_3_code 35 = .ok (.goto 6, 3) := by decide +kernel
theorem d7_41 : decode method_3_code 41 = .ok (.dreturn, 1) := by decide +kernel
theorem d7_38 : decode method_3_code 38 = .ok (.ldc2_w 36, 3) := by decide +kernel
theorem d7_42 : decode method_3_code 42 = .ok (.iload_n 1, 1) := by decide +kernel
theorem d7_43 : decode method_3_code 43 = .ok (.iconst 2, 1) := by decide +kernel
theorem d7_44 : decode method_3_code 44 = .ok (.if_icmp .ne 7, 3) := by decide +kernel
theorem d7_47 : decode method_3_code 47 = .ok (.ldc2_w 32, 3) := by decide +kernel
theorem d7_50 : decode method_3_code 50 = .ok (.dreturn, 1) := by decide +kernel
theorem d7_51 : decode method_3_code 51 = .ok (.iload_n 1, 1) := by decide +kernel
theorem d7_52 : decode method_3_code 52 = .ok (.iconst 1, 1) := by decide +kernel
theorem d7_53 : decode method_3_code 53 = .ok (.if_icmp .ne 9, 3) := by decide +kernel
theorem d7_56 : decode method_3_code 56 = .ok (.ldc2_w 38, 3) := by decide +kernel
theorem d7_59 : decode method_3_code 59 = .ok (.goto 6, 3) := by decide +kernel
theorem d7_65 : decode method_3_code 65 = .ok (.dreturn, 1) := by decide +kernel
theorem d7_62 : decode method_3_code 62 = .ok (.ldc2_w 40, 3) := by decide +kernel
set_option maxRecDepth 65536 in
set_option maxHeartbeats 40000000 in
theorem rm7 (l : Launch) (Z : State) (a0 : Array Value) (hw : ∀ d ∈ tables_1, d.before a0 Z = true) (ws : List Jvm.Cond) (p1 : Int32) (p2 : Int32) (h0 : Heap) (n0 : Nat) (Z0 : n0 ≤ h0.size)  :
    MetFree l (⟨"com/example/clockwright/clockwright/mcmc/AcceptanceRatePinLaw", "expected", "(II)D"⟩ : MethodName) (head1 (Jvm.Cond.code (⟨"com/example/clockwright/clockwright/mcmc/AcceptanceRatePinLaw", "expected", "(II)D"⟩ : MethodName) method_3_code 2 (some .double) :: ws) ({ frames := 0, cells := 0, slots := 0, locals := 0 } : Room)) (fun a U => a = #[(.int p1), (.int p2)] ∧ Z.Warmed39 U.vm ∧ U.heap = h0) (fun _ _ _ _ _ => True) (fun _ U o U' => ∃ v L, o = .returned v ∧ Q7 Z p1 p2 h0 n0 v U'.heap L ∧ FrameEnd U o U' L ({ frames := 0, cells := 0, slots := 0, locals := 0 } : Room).cells ({ frames := 0, cells := 0, slots := 0, locals := 0 } : Room).slots) := by
  refine MetFree.of_bodySF (plainFor_of_name pn_1) hisR ?_
  intro p e s m args below meth c s₁ Bd hml0 hP hK
  obtain ⟨rfl, hZ, hh⟩ := hP
  have hx := Bd.exec
  have hby := Bd.bytes
  have hml : c.maxLocals = 2 := hml0
  have hown : s.vm.findClass "com/example/clockwright/clockwright/mcmc/AcceptanceRatePinLaw" = some m.cls := findClass_of_methodNamed Bd.named
  have hnm := (name_of_methodNamed Bd.named Bd.method).1
  have X0 : Stand p l e ({ frames := 0, cells := 0, slots := 0, locals := 0 } : Room) s m #[(.int p1), (.int p2)] below meth c s₁ [] 0 0 := Stand.of_body Bd
  have e0 : s₁.heap = h0 := by rw [← hh, Bd.state]; rfl
  have N0 := Fr.nil n0
  have pre0 : ∀ tg, Steps p.tables e below (s₁.setTop (mkF m 0 #[iv p1, iv p2] [])) tg → Steps p.tables e below (s₁.setTop (entryFrame m #[(.int p1), (.int p2)] 2)) tg := fun tg k => castTop (ef_7 m p1 p2) k
  have pre2 : ∀ tg, own_S p e below s₁ m 1 #[iv p1, iv p2] [(.int p2)] tg → Steps p.tables e below (s₁.setTop (entryFrame m #[(.int p1), (.int p2)] 2)) tg := fun tg k => pre0 tg (by
    show own_S p e below s₁ m 0 #[iv p1, iv p2] [] _
    refine XS.iloadN X0.here hx rfl (hb hby d7_0) rfl ?_
    exact k)
  by_cases hc1_1 : p2 = (0 : Int32)
  ·  -- pc 1 yes
    have pre3 : ∀ tg, own_S p e below s₁ m 5 #[iv p1, iv p2] [(.double (0 : UInt64))] tg → Steps p.tables e below (s₁.setTop (entryFrame m #[(.int p1), (.int p2)] 2)) tg := fun tg k => pre2 tg (by
      show own_S p e below s₁ m 1 #[iv p1, iv p2] [(.int p2)] _
      refine XS.ifNo X0.here hx rfl (hb hby d7_1) rfl ((if0 _ _).trans (teq hc1_1).2) ?_
      show own_S p e below s₁ m 4 #[iv p1, iv p2] [] _
      refine XS.dconst0 X0.here hx rfl (hb hby d7_4) (v := (0 : UInt64)) rfl ?_
      exact k)
    obtain ⟨fs, hr, hrun, hended, hW, hsame⟩ := X0.leave (v := some (.double (0 : UInt64))) (fun h => by rw [Bd.returns] at h; cases h)
    refine ⟨_, _, pre3 _ ?_, hrun, hended, _, _, rfl, ?_, ⟨_, rfl⟩, hW, hsame.mono (by decide) (by decide)⟩
    · show own_S p e below s₁ m 5 #[iv p1, iv p2] [(.double (0 : UInt64))] _
      exact retOut X0 hx (t := .double) Bd.returns rfl (Or.inr (Or.inr (Or.inl ⟨rfl, rfl, _, rfl⟩))) (hb hby d7_5) hr
    · show Q7 Z p1 p2 h0 n0 _ s₁.heap _
      rw [e0]
      exact ⟨by unfold own_exp; rw [if_pos hc1_1], N0, rfl⟩
  ·  -- pc 1 no
    have pre5 : ∀ tg, own_S p e below s₁ m 8 #[iv p1, iv p2] [(.int p1), (.int p2)] tg → Steps p.tables e below (s₁.setTop (entryFrame m #[(.int p1), (.int p2)] 2)) tg := fun tg k => pre2 tg (by
      show own_S p e below s₁ m 1 #[iv p1, iv p2] [(.int p2)] _
      refine XS.ifYes X0.here hx rfl (pc0 := 1) (pc' := 6) rfl (hb hby d7_1) rfl ((if0 _ _).trans (feq hc1_1).2) (by decide) (by decide) ?_
      show own_S p e below s₁ m 6 #[iv p1, iv p2] [] _
      refine XS.iloadN X0.here hx rfl (hb hby d7_6) rfl ?_
      show own_S p e below s₁ m 7 #[iv p1, iv p2] [(.int p2)] _
      refine XS.iloadN X0.here hx rfl (hb hby d7_7) rfl ?_
      exact k)
    by_cases hc8_4 : p2 = p1
    ·  -- pc 8 yes
      have pre6 : ∀ tg, own_S p e below s₁ m 12 #[iv p1, iv p2] [(.double (4607182418800017408 : UInt64))] tg → Steps p.tables e below (s₁.setTop (entryFrame m #[(.int p1), (.int p2)] 2)) tg := fun tg k => pre5 tg (by
        show own_S p e below s₁ m 8 #[iv p1, iv p2] [(.int p1), (.int p2)] _
        refine XS.icmpNo X0.here hx rfl (hb hby d7_8) rfl (teq hc8_4).2 ?_
        show own_S p e below s₁ m 11 #[iv p1, iv p2] [] _
        refine XS.dconst1 X0.here hx rfl (hb hby d7_11) (v := (4607182418800017408 : UInt64)) rfl ?_
        exact k)
      obtain ⟨fs, hr, hrun, hended, hW, hsame⟩ := X0.leave (v := some (.double (4607182418800017408 : UInt64))) (fun h => by rw [Bd.returns] at h; cases h)
      refine ⟨_, _, pre6 _ ?_, hrun, hended, _, _, rfl, ?_, ⟨_, rfl⟩, hW, hsame.mono (by decide) (by decide)⟩
      · show own_S p e below s₁ m 12 #[iv p1, iv p2] [(.double (4607182418800017408 : UInt64))] _
        exact retOut X0 hx (t := .double) Bd.returns rfl (Or.inr (Or.inr (Or.inl ⟨rfl, rfl, _, rfl⟩))) (hb hby d7_12) hr
      · show Q7 Z p1 p2 h0 n0 _ s₁.heap _
        rw [e0]
        exact ⟨by unfold own_exp; rw [if_neg hc1_1, if_pos hc8_4], N0, rfl⟩
    ·  -- pc 8 no
      have pre8 : ∀ tg, own_S p e below s₁ m 15 #[iv p1, iv p2] [(.int (2 : Int32)), (.int p1)] tg → Steps p.tables e below (s₁.setTop (entryFrame m #[(.int p1), (.int p2)] 2)) tg := fun tg k => pre5 tg (by
        show own_S p e below s₁ m 8 #[iv p1, iv p2] [(.int p1), (.int p2)] _
        refine XS.icmpYes X0.here hx rfl (pc0 := 8) (pc' := 13) rfl (hb hby d7_8) rfl (feq hc8_4).2 (by decide) (by decide) ?_
        show own_S p e below s₁ m 13 #[iv p1, iv p2] [] _
        refine XS.iloadN X0.here hx rfl (hb hby d7_13) rfl ?_
        show own_S p e below s₁ m 14 #[iv p1, iv p2] [(.int p1)] _
        refine XS.iconst X0.here hx rfl (hb hby d7_14) ?_
        exact k)
      by_cases hc15_7 : p1 = (2 : Int32)
      ·  -- pc 15 yes
        have pre9 : ∀ tg, own_S p e below s₁ m 21 #[iv p1, iv p2] [(.double (4602678819172646912 : UInt64))] tg → Steps p.tables e below (s₁.setTop (entryFrame m #[(.int p1), (.int p2)] 2)) tg := fun tg k => pre8 tg (by
          show own_S p e below s₁ m 15 #[iv p1, iv p2] [(.int (2 : Int32)), (.int p1)] _
          refine XS.icmpNo X0.here hx rfl (hb hby d7_15) rfl (teq hc15_7).2 ?_
          show own_S p e below s₁ m 18 #[iv p1, iv p2] [] _
          refine X0.ldc2DoubleC hx hown (mvT hZ (hw _ (List.mem_of_getElem? (i := 42) rfl))) (g := (mkF m 18 #[iv p1, iv p2] [])) rfl (hb hby d7_18) _ ?_
          exact k)
        obtain ⟨fs, hr, hrun, hended, hW, hsame⟩ := X0.leave (v := some (.double (4602678819172646912 : UInt64))) (fun h => by rw [Bd.returns] at h; cases h)
        refine ⟨_, _, pre9 _ ?_, hrun, hended, _, _, rfl, ?_, ⟨_, rfl⟩, hW, hsame.mono (by decide) (by decide)⟩
        · show own_S p e below s₁ m 21 #[iv p1, iv p2] [(.double (4602678819172646912 : UInt64))] _
          exact retOut X0 hx (t := .double) Bd.returns rfl (Or.inr (Or.inr (Or.inl ⟨rfl, rfl, _, rfl⟩))) (hb hby d7_21) hr
        · show Q7 Z p1 p2 h0 n0 _ s₁.heap _
          rw [e0]
          exact ⟨by unfold own_exp; rw [if_neg hc1_1, if_neg hc8_4, if_pos hc15_7], N0, rfl⟩
      ·  -- pc 15 no
        have pre11 : ∀ tg, own_S p e below s₁ m 24 #[iv p1, iv p2] [(.int (3 : Int32)), (.int p1)] tg → Steps p.tables e below (s₁.setTop (entryFrame m #[(.int p1), (.int p2)] 2)) tg := fun tg k => pre8 tg (by
          show own_S p e below s₁ m 15 #[iv p1, iv p2] [(.int (2 : Int32)), (.int p1)] _
          refine XS.icmpYes X0.here hx rfl (pc0 := 15) (pc' := 22) rfl (hb hby d7_15) rfl (feq hc15_7).2 (by decide) (by decide) ?_
          show own_S p e below s₁ m 22 #[iv p1, iv p2] [] _
          refine XS.iloadN X0.here hx rfl (hb hby d7_22) rfl ?_
          show own_S p e below s₁ m 23 #[iv p1, iv p2] [(.int p1)] _
          refine XS.iconst X0.here hx rfl (hb hby d7_23) ?_
          exact k)
        by_cases hc24_10 : p1 = (3 : Int32)
        ·  -- pc 24 yes
          have pre13 : ∀ tg, own_S p e below s₁ m 29 #[iv p1, iv p2] [(.int (1 : Int32)), (.int p2)] tg → Steps p.tables e below (s₁.setTop (entryFrame m #[(.int p1), (.int p2)] 2)) tg := fun tg k => pre11 tg (by
            show own_S p e below s₁ m 24 #[iv p1, iv p2] [(.int (3 : Int32)), (.int p1)] _
            refine XS.icmpNo X0.here hx rfl (hb hby d7_24) rfl (teq hc24_10).2 ?_
            show own_S p e below s₁ m 27 #[iv p1, iv p2] [] _
            refine XS.iloadN X0.here hx rfl (hb hby d7_27) rfl ?_
            show own_S p e below s₁ m 28 #[iv p1, iv p2] [(.int p2)] _
            refine XS.iconst X0.here hx rfl (hb hby d7_28) ?_
            exact k)
          by_cases hc29_12 : p2 = (1 : Int32)
          ·  -- pc 29 yes
            have pre14 : ∀ tg, own_S p e below s₁ m 41 #[iv p1, iv p2] [(.double (4599676419421066581 : UInt64))] tg → Steps p.tables e below (s₁.setTop (entryFrame m #[(.int p1), (.int p2)] 2)) tg := fun tg k => pre13 tg (by
              show own_S p e below s₁ m 29 #[iv p1, iv p2] [(.int (1 : Int32)), (.int p2)] _
              refine XS.icmpNo X0.here hx rfl (hb hby d7_29) rfl (teq hc29_12).2 ?_
              show own_S p e below s₁ m 32 #[iv p1, iv p2] [] _
              refine X0.ldc2DoubleC hx hown (mvT hZ (hw _ (List.mem_of_getElem? (i := 43) rfl))) (g := (mkF m 32 #[iv p1, iv p2] [])) rfl (hb hby d7_32) _ ?_
              show own_S p e below s₁ m 35 #[iv p1, iv p2] [(.double (4599676419421066581 : UInt64))] _
              refine XS.goto X0.here hx rfl (pc0 := 35) (pc' := 41) rfl (hb hby d7_35) (by decide) (by decide) ?_
              exact k)
            obtain ⟨fs, hr, hrun, hended, hW, hsame⟩ := X0.leave (v := some (.double (4599676419421066581 : UInt64))) (fun h => by rw [Bd.returns] at h; cases h)
            refine ⟨_, _, pre14 _ ?_, hrun, hended, _, _, rfl, ?_, ⟨_, rfl⟩, hW, hsame.mono (by decide) (by decide)⟩
            · show own_S p e below s₁ m 41 #[iv p1, iv p2] [(.double (4599676419421066581 : UInt64))] _
              exact retOut X0 hx (t := .double) Bd.returns rfl (Or.inr (Or.inr (Or.inl ⟨rfl, rfl, _, rfl⟩))) (hb hby d7_41) hr
            · show Q7 Z p1 p2 h0 n0 _ s₁.heap _
              rw [e0]
              exact ⟨by unfold own_exp; rw [if_neg hc1_1, if_neg hc8_4, if_neg hc15_7, if_pos hc24_10, if_pos hc29_12], N0, rfl⟩
          ·  -- pc 29 no
            have pre15 : ∀ tg, own_S p e below s₁ m 41 #[iv p1, iv p2] [(.double (4604180019048437077 : UInt64))] tg → Steps p.tables e below (s₁.setTop (entryFrame m #[(.int p1), (.int p2)] 2)) tg := fun tg k => pre13 tg (by
              show own_S p e below s₁ m 29 #[iv p1, iv p2] [(.int (1 : Int32)), (.int p2)] _
              refine XS.icmpYes X0.here hx rfl (pc0 := 29) (pc' := 38) rfl (hb hby d7_29) rfl (feq hc29_12).2 (by decide) (by decide) ?_
              show own_S p e below s₁ m 38 #[iv p1, iv p2] [] _
              refine X0.ldc2DoubleC hx hown (mvT hZ (hw _ (List.mem_of_getElem? (i := 40) rfl))) (g := (mkF m 38 #[iv p1, iv p2] [])) rfl (hb hby d7_38) _ ?_
              exact k)
            obtain ⟨fs, hr, hrun, hended, hW, hsame⟩ := X0.leave (v := some (.double (4604180019048437077 : UInt64))) (fun h => by rw [Bd.returns] at h; cases h)
            refine ⟨_, _, pre15 _ ?_, hrun, hended, _, _, rfl, ?_, ⟨_, rfl⟩, hW, hsame.mono (by decide) (by decide)⟩
            · show own_S p e below s₁ m 41 #[iv p1, iv p2] [(.double (4604180019048437077 : UInt64))] _
              exact retOut X0 hx (t := .double) Bd.returns rfl (Or.inr (Or.inr (Or.inl ⟨rfl, rfl, _, rfl⟩))) (hb hby d7_41) hr
            · show Q7 Z p1 p2 h0 n0 _ s₁.heap _
              rw [e0]
              exact ⟨by unfold own_exp; rw [if_neg hc1_1, if_neg hc8_4, if_neg hc15_7, if_pos hc24_10, if_neg hc29_12], N0, rfl⟩
        ·  -- pc 24 no
          have pre17 : ∀ tg, own_S p e below s₁ m 44 #[iv p1, iv p2] [(.int (2 : Int32)), (.int p2)] tg → Steps p.tables e below (s₁.setTop (entryFrame m #[(.int p1), (.int p2)] 2)) tg := fun tg k => pre11 tg (by
            show own_S p e below s₁ m 24 #[iv p1, iv p2] [(.int (3 : Int32)), (.int p1)] _
            refine XS.icmpYes X0.here hx rfl (pc0 := 24) (pc' := 42) rfl (hb hby d7_24) rfl (feq hc24_10).2 (by decide) (by decide) ?_
            show own_S p e below s₁ m 42 #[iv p1, iv p2] [] _
            refine XS.iloadN X0.here hx rfl (hb hby d7_42) rfl ?_
            show own_S p e below s₁ m 43 #[iv p1, iv p2] [(.int p2)] _
            refine XS.iconst X0.here hx rfl (hb hby d7_43) ?_
            exact k)
          by_cases hc44_16 : p2 = (2 : Int32)
          ·  -- pc 44 yes
            have pre18 : ∀ tg, own_S p e below s₁ m 50 #[iv p1, iv p2] [(.double (4602678819172646912 : UInt64))] tg → Steps p.tables e below (s₁.setTop (entryFrame m #[(.int p1), (.int p2)] 2)) tg := fun tg k => pre17 tg (by
              show own_S p e below s₁ m 44 #[iv p1, iv p2] [(.int (2 : Int32)), (.int p2)] _
              refine XS.icmpNo X0.here hx rfl (hb hby d7_44) rfl (teq hc44_16).2 ?_
              show own_S p e below s₁ m 47 #[iv p1, iv p2] [] _
              refine X0.ldc2DoubleC hx hown (mvT hZ (hw _ (List.mem_of_getElem? (i := 42) rfl))) (g := (mkF m 47 #[iv p1, iv p2] [])) rfl (hb hby d7_47) _ ?_
              exact k)
            obtain ⟨fs, hr, hrun, hended, hW, hsame⟩ := X0.leave (v := some (.double (4602678819172646912 : UInt64))) (fun h => by rw [Bd.returns] at h; cases h)
            refine ⟨_, _, pre18 _ ?_, hrun, hended, _, _, rfl, ?_, ⟨_, rfl⟩, hW, hsame.mono (by decide) (by decide)⟩
            · show own_S p e below s₁ m 50 #[iv p1, iv p2] [(.double (4602678819172646912 : UInt64))] _
              exact retOut X0 hx (t := .double) Bd.returns rfl (Or.inr (Or.inr (Or.inl ⟨rfl, rfl, _, rfl⟩))) (hb hby d7_50) hr
            · show Q7 Z p1 p2 h0 n0 _ s₁.heap _
              rw [e0]
              exact ⟨by unfold own_exp; rw [if_neg hc1_1, if_neg hc8_4, if_neg hc15_7, if_neg hc24_10, if_pos hc44_16], N0, rfl⟩
          ·  -- pc 44 no
            have pre20 : ∀ tg, own_S p e below s₁ m 53 #[iv p1, iv p2] [(.int (1 : Int32)), (.int p2)] tg → Steps p.tables e below (s₁.setTop (entryFrame m #[(.int p1), (.int p2)] 2)) tg := fun tg k => pre17 tg (by
              show own_S p e below s₁ m 44 #[iv p1, iv p2] [(.int (2 : Int32)), (.int p2)] _
              refine XS.icmpYes X0.here hx rfl (pc0 := 44) (pc' := 51) rfl (hb hby d7_44) rfl (feq hc44_16).2 (by decide) (by decide) ?_
              show own_S p e below s₁ m 51 #[iv p1, iv p2] [] _
              refine XS.iloadN X0.here hx rfl (hb hby d7_51) rfl ?_
              show own_S p e below s₁ m 52 #[iv p1, iv p2] [(.int p2)] _
              refine XS.iconst X0.here hx rfl (hb hby d7_52) ?_
              exact k)
            by_cases hc53_19 : p2 = (1 : Int32)
            ·  -- pc 53 yes
              have pre21 : ∀ tg, own_S p e below s₁ m 65 #[iv p1, iv p2] [(.double (4598175219545276416 : UInt64))] tg → Steps p.tables e below (s₁.setTop (entryFrame m #[(.int p1), (.int p2)] 2)) tg := fun tg k => pre20 tg (by
                show own_S p e below s₁ m 53 #[iv p1, iv p2] [(.int (1 : Int32)), (.int p2)] _
                refine XS.icmpNo X0.here hx rfl (hb hby d7_53) rfl (teq hc53_19).2 ?_
                show own_S p e below s₁ m 56 #[iv p1, iv p2] [] _
                refine X0.ldc2DoubleC hx hown (mvT hZ (hw _ (List.mem_of_getElem? (i := 39) rfl))) (g := (mkF m 56 #[iv p1, iv p2] [])) rfl (hb hby d7_56) _ ?_
                show own_S p e below s₁ m 59 #[iv p1, iv p2] [(.double (4598175219545276416 : UInt64))] _
                refine XS.goto X0.here hx rfl (pc0 := 59) (pc' := 65) rfl (hb hby d7_59) (by decide) (by decide) ?_
                exact k)
              obtain ⟨fs, hr, hrun, hended, hW, hsame⟩ := X0.leave (v := some (.double (4598175219545276416 : UInt64))) (fun h => by rw [Bd.returns] at h; cases h)
              refine ⟨_, _, pre21 _ ?_, hrun, hended, _, _, rfl, ?_, ⟨_, rfl⟩, hW, hsame.mono (by decide) (by decide)⟩
              · show own_S p e below s₁ m 65 #[iv p1, iv p2] [(.double (4598175219545276416 : UInt64))] _
                exact retOut X0 hx (t := .double) Bd.returns rfl (Or.inr (Or.inr (Or.inl ⟨rfl, rfl, _, rfl⟩))) (hb hby d7_65) hr
              · show Q7 Z p1 p2 h0 n0 _ s₁.heap _
                rw [e0]
                exact ⟨by unfold own_exp; rw [if_neg hc1_1, if_neg hc8_4, if_neg hc15_7, if_neg hc24_10, if_neg hc44_16, if_pos hc53_19], N0, rfl⟩
            ·  -- pc 53 no
              have pre22 : ∀ tg, own_S p e below s₁ m 65 #[iv p1, iv p2] [(.double (4604930618986332160 : UInt64))] tg → Steps p.tables e below (s₁.setTop (entryFrame m #[(.int p1), (.int p2)] 2)) tg := fun tg k => pre20 tg (by
                show own_S p e below s₁ m 53 #[iv p1, iv p2] [(.int (1 : Int32)), (.int p2)] _
                refine XS.icmpYes X0.here hx rfl (pc0 := 53) (pc' := 62) rfl (hb hby d7_53) rfl (feq hc53_19).2 (by decide) (by decide) ?_
                show own_S p e below s₁ m 62 #[iv p1, iv p2] [] _
                refine X0.ldc2DoubleC hx hown (mvT hZ (hw _ (List.mem_of_getElem? (i := 41) rfl))) (g := (mkF m 62 #[iv p1, iv p2] [])) rfl (hb hby d7_62) _ ?_
                exact k)
              obtain ⟨fs, hr, hrun, hended, hW, hsame⟩ := X0.leave (v := some (.double (4604930618986332160 : UInt64))) (fun h => by rw [Bd.returns] at h; cases h)
              refine ⟨_, _, pre22 _ ?_, hrun, hended, _, _, rfl, ?_, ⟨_, rfl⟩, hW, hsame.mono (by decide) (by decide)⟩
              · show own_S p e below s₁ m 65 #[iv p1, iv p2] [(.double (4604930618986332160 : UInt64))] _
                exact retOut X0 hx (t := .double) Bd.returns rfl (Or.inr (Or.inr (Or.inl ⟨rfl, rfl, _, rfl⟩))) (hb hby d7_65) hr
              · show Q7 Z p1 p2 h0 n0 _ s₁.heap _
                rw [e0]
                exact ⟨by unfold own_exp; rw [if_neg hc1_1, if_neg hc8_4, if_neg hc15_7, if_neg hc24_10, if_neg hc44_16, if_neg hc53_19], N0, rfl⟩
theorem own_k (k : Int32) : ((k &&& (2147483647 : Int32)) % (5 : Int32)) = 0 ∨ ((k &&& (2147483647 : Int32)) % (5 : Int32)) = 1 ∨ ((k &&& (2147483647 : Int32)) % (5 : Int32)) = 2 ∨ ((k &&& (2147483647 : Int32)) % (5 : Int32)) = 3 ∨ ((k &&& (2147483647 : Int32)) % (5 : Int32)) = 4 := by
  have e1 := c_mask k (2147483647 : Int32) 31 (by decide) (by decide)
  have e2 := (c_irem (k &&& (2147483647 : Int32)) 5 5 (by decide)).1 (by omega)
  have l0 : (0 : Int32).toInt = 0 := by decide
  have l1 : (1 : Int32).toInt = 1 := by decide
  have l2 : (2 : Int32).toInt = 2 := by decide
  have l3 : (3 : Int32).toInt = 3 := by decide
  have l4 : (4 : Int32).toInt = 4 := by decide
  have l5 : (5 : Int32).toInt = 5 := by decide
  simp only [← Int32.toInt_inj, l0, l1, l2, l3, l4] at *
  omega
theorem ef_0 (m : MethodId) (p1 : Int32) (p2 : Int32) : entryFrame m #[(.int p1), (.int p2)] maxLocals = mkF m 0 #[iv p1, iv p2, .unset, .unset, .unset, .unset, .unset, .unset, .unset] [] := by first | (simp [entryFrame, mkF, argsToLocals, Value.category, maxLocals]; done) | rfl
def Q0 (Z : State) (p1 : Int32) (p2 : Int32) (h0 : Heap) (n0 : Nat) (v : Option Value) (h : Heap) (L : List Loc) : Prop := v = some (.int 1) ∧ Fr n0 L
theorem pd_0 : parseMethodDescriptor "()V" = some ⟨[], none⟩ := by decide +kernel
theorem pd_1 : parseMethodDescriptor "()D" = some ⟨[], some .double⟩ := by decide +kernel
theorem pd_2 : parseMethodDescriptor "()J" = some ⟨[], some .long⟩ := by decide +kernel
theorem pd_3 : parseMethodDescriptor "(Z)V" = some ⟨[.boolean], none⟩ := by decide +kernel
theorem pd_4 : parseMethodDescriptor "(II)D" = some ⟨[.int, .int], some .double⟩ := by decide +kernel
set_option maxRecDepth 65536 in
set_option maxHeartbeats 40000000 in
theorem rm0 (l : Launch) (Z : State) (a0 : Array Value) (hw : ∀ d ∈ tables_1, d.before a0 Z = true) (ws : List Jvm.Cond) (p1 : Int32) (p2 : Int32) (h0 : Heap) (n0 : Nat) (Z0 : n0 ≤ h0.size)  :
    MetFree l x (head1 (Jvm.Cond.code x code maxLocals ret :: ws) room_1) (fun a U => a = #[(.int p1), (.int p2)] ∧ Z.Warmed39 U.vm ∧ U.heap = h0) (fun _ _ _ _ _ => True) (fun _ U o U' => ∃ v L, o = .returned v ∧ Q0 Z p1 p2 h0 n0 v U'.heap L ∧ FrameEnd U o U' L room_1.cells room_1.slots) := by
  refine MetFree.of_bodySF (plainFor_of_name pn_1) hisR ?_
  intro p e s m args below meth c s₁ Bd hml0 hP hK
  obtain ⟨rfl, hZ, hh⟩ := hP
  have hx := Bd.exec
  have hby := Bd.bytes
  have hml : c.maxLocals = 9 := hml0
  have hown : s.vm.findClass "com/example/clockwright/clockwright/mcmc/AcceptanceRatePinLaw" = some m.cls := findClass_of_methodNamed Bd.named
  have hnm := (name_of_methodNamed Bd.named Bd.method).1
  have X0 : Stand p l e room_1 s m #[(.int p1), (.int p2)] below meth c s₁ [] 0 0 := Stand.of_body Bd
  have e0 : s₁.heap = h0 := by rw [← hh, Bd.state]; rfl
  have N0 := Fr.nil n0
  have pre0 : ∀ tg, Steps p.tables e below (s₁.setTop (mkF m 0 #[iv p1, iv p2, .unset, .unset, .unset, .unset, .unset, .unset, .unset] [])) tg → Steps p.tables e below (s₁.setTop (entryFrame m #[(.int p1), (.int p2)] maxLocals)) tg := fun tg k => castTop (ef_0 m p1 p2) k
  have pre1 : ∀ tg, own_S p e below s₁ m 7 #[iv p1, iv p2, iv ((p1 &&& (2147483647 : Int32)) % (5 : Int32)), .unset, .unset, .unset, .unset, .unset, .unset] [] tg → Steps p.tables e below (s₁.setTop (entryFrame m #[(.int p1), (.int p2)] maxLocals)) tg := fun tg k => pre0 tg (by
    show own_S p e below s₁ m 0 #[iv p1, iv p2, .unset, .unset, .unset, .unset, .unset, .unset, .unset] [] _
    refine XS.iloadN X0.here hx rfl (hb hby at_0) rfl ?_
    show own_S p e below s₁ m 1 #[iv p1, iv p2, .unset, .unset, .unset, .unset, .unset, .unset, .unset] [(.int p1)] _
    refine X0.ldcInt hx hown (mvT hZ (hw _ (List.mem_of_getElem? (i := 0) rfl))) (g := (mkF m 1 #[iv p1, iv p2, .unset, .unset, .unset, .unset, .unset, .unset, .unset] [(.int p1)])) rfl (hb hby at_1) _ ?_
    show own_S p e below s₁ m 3 #[iv p1, iv p2, .unset, .unset, .unset, .unset, .unset, .unset, .unset] [(.int (2147483647 : Int32)), (.int p1)] _
    refine XS.iand X0.here hx rfl (hb hby at_3) rfl ?_
    show own_S p e below s₁ m 4 #[iv p1, iv p2, .unset, .unset, .unset, .unset, .unset, .unset, .unset] [(.int (p1 &&& (2147483647 : Int32)))] _
    refine XS.iconst X0.here hx rfl (hb hby at_4) ?_
    show own_S p e below s₁ m 5 #[iv p1, iv p2, .unset, .unset, .unset, .unset, .unset, .unset, .unset] [(.int (5 : Int32)), (.int (p1 &&& (2147483647 : Int32)))] _
    refine iremM X0 hx rfl (hb hby at_5) rfl (by decide) ?_
    show own_S p e below s₁ m 6 #[iv p1, iv p2, .unset, .unset, .unset, .unset, .unset, .unset, .unset] [(.int ((p1 &&& (2147483647 : Int32)) % (5 : Int32)))] _
    refine XS.istoreN X0.here hx rfl (hb hby at_6) rfl (l' := #[iv p1, iv p2, iv ((p1 &&& (2147483647 : Int32)) % (5 : Int32)), .unset, .unset, .unset, .unset, .unset, .unset]) rfl ?_
    exact k)
  have hk0 := own_k p1
  obtain ⟨kv, ekv⟩ : ∃ z, z = ((p1 &&& (2147483647 : Int32)) % (5 : Int32)) := ⟨_, rfl⟩
  rw [← ekv] at hk0 pre1
  obtain ⟨T2, h2, X2, e2, E2, A2, D2, -, st2⟩ := newO X0 hx hZ hown (hw _ (List.mem_of_getElem? (i := 1) rfl)) (hw _ (List.mem_of_getElem? (i := 2) rfl)) (hw _ (List.mem_of_getElem? (i := 3) rfl)) e0 (g := (mkF m 7 #[iv p1, iv p2, iv kv, .unset, .unset, .unset, .unset, .unset, .unset] [])) rfl (hb hby at_7) (by decide) (by decide)
  obtain ⟨b2, g2⟩ : ∃ z, z = h0.size := ⟨_, rfl⟩
  rw [← g2] at A2 D2 st2
  have g_b2 : n0 ≤ b2 := Nat.le_trans Z0 (Nat.le_of_eq g2.symm)
  have sz_b2 : h0.size ≤ b2 := Nat.le_trans ((Keep.refl h0 [])).1 (Nat.le_of_eq g2.symm)
  have F_proposals_b2 : Fld Z h2 b2 "com/example/clockwright/clockwright/mcmc/Acceptance" "proposals" "J" (.long (0 : Int64)) := D2 (Or.inl (hw _ (List.mem_of_getElem? (i := 16) rfl))) (ty := .long) (by decide)
  have F_accepted_b2 : Fld Z h2 b2 "com/example/clockwright/clockwright/mcmc/Acceptance" "accepted" "J" (.long (0 : Int64)) := D2 (Or.inl (hw _ (List.mem_of_getElem? (i := 29) rfl))) (ty := .long) (by decide)
  have Zs4 : n0 ≤ h2.size := (Nat.le_trans Z0 E2.1)
  obtain ⟨_, _, ⟨T3, L3, k3, n3⟩, -, X3, ⟨Lc3, hQ3, l3, y3, z3⟩, st3⟩ := X2.specialBack hx (y := (⟨"com/example/clockwright/clockwright/mcmc/Acceptance", "<init>", "()V"⟩ : MethodName)) rfl hown (mvT hZ (hw _ (List.mem_of_getElem? (i := 4) rfl))) (mvT hZ (hw _ (List.mem_of_getElem? (i := 5) rfl))) (mvT hZ (hw _ (List.mem_of_getElem? (i := 6) rfl))) (by decide) (backOf (W := 1) (rm1 l Z a0 hw [] b2 h2 n0 Zs4 ) hZ (hw _ (List.mem_of_getElem? (i := 6) rfl)) (hw _ (List.mem_of_getElem? (i := 3) rfl)) (by decide) (by decide)) (g := (mkF m 11 #[iv p1, iv p2, iv kv, .unset, .unset, .unset, .unset, .unset, .unset] [(.ref b2), (.ref b2)])) rfl (by rw [hml]; rfl) (Steps.refl _) (a := b2) (argsL := []) (rest := [(.ref b2)]) (lenOf pd_0 rfl) rfl (by show 2 * 0 + _ ≤ _; exact Nat.le_of_eq rfl) (hb hby at_11) (fun _ _ => ⟨rfl, e2, (by decide : 1 + 0 ≤ _), (by decide : 2 + 0 ≤ _)⟩)
  dsimp only [Pt.U, Pt.locs, Pt.cells, Pt.slots] at X3 l3 y3 z3 st3 hQ3
  subst l3 y3 z3
  obtain ⟨rfl, N3q, e3q⟩ := hQ3
  have N3 := Fr.app N0 N3q
  have e3 : T3.heap = h2 := e3q
  have pre5 : ∀ tg, own_S p e below T3 m 18 #[iv p1, iv p2, iv kv, rv b2, iv (0 : Int32), .unset, .unset, .unset, .unset] [] tg → Steps p.tables e below (s₁.setTop (entryFrame m #[(.int p1), (.int p2)] maxLocals)) tg := fun tg k => pre1 tg (by
    show own_S p e below s₁ m 7 #[iv p1, iv p2, iv kv, .unset, .unset, .unset, .unset, .unset, .unset] [] _
    refine st2 _ ?_
    show own_S p e below T2 m 10 #[iv p1, iv p2, iv kv, .unset, .unset, .unset, .unset, .unset, .unset] [(.ref b2)] _
    refine XS.dup X2.here hx rfl (hb hby at_10) rfl rfl ?_
    show own_S p e below T2 m 11 #[iv p1, iv p2, iv kv, .unset, .unset, .unset, .unset, .unset, .unset] [(.ref b2), (.ref b2)] _
    refine st3.trans ?_
    show own_S p e below T3 m 14 #[iv p1, iv p2, iv kv, .unset, .unset, .unset, .unset, .unset, .unset] [(.ref b2)] _
    refine XS.astoreN X3.here hx rfl (hb hby at_14) rfl rfl (l' := #[iv p1, iv p2, iv kv, rv b2, .unset, .unset, .unset, .unset, .unset]) rfl ?_
    show own_S p e below T3 m 15 #[iv p1, iv p2, iv kv, rv b2, .unset, .unset, .unset, .unset, .unset] [] _
    refine XS.iconst X3.here hx rfl (hb hby at_15) ?_
    show own_S p e below T3 m 16 #[iv p1, iv p2, iv kv, rv b2, .unset, .unset, .unset, .unset, .unset] [(.int (0 : Int32))] _
    refine XS.istore X3.here hx rfl (hb hby at_16) rfl (l' := #[iv p1, iv p2, iv kv, rv b2, iv (0 : Int32), .unset, .unset, .unset, .unset]) rfl ?_
    exact k)
  rcases hk0 with rfl | rfl | rfl | rfl | rfl
  ·  -- case
    obtain ⟨cq6, kq6, q6a, q6b, q6c⟩ := isOf hZ e3 A2
    obtain ⟨_, _, ⟨T6, L6, k6, n6⟩, -, X6, ⟨Lc6, hQ6, l6, y6, z6⟩, st6⟩ := X3.virtualBack hx (y := (⟨"com/example/clockwright/clockwright/mcmc/Acceptance", "rate", "()D"⟩ : MethodName)) (z := (⟨"com/example/clockwright/clockwright/mcmc/Acceptance", "rate", "()D"⟩ : MethodName)) hown (mvT hZ (hw _ (List.mem_of_getElem? (i := 10) rfl))) (mvT hZ (hw _ (List.mem_of_getElem? (i := 11) rfl))) (notFace_of_selects (args := #[]) (mvT hZ (hw _ (List.mem_of_getElem? (i := 13) rfl)))) (mvT hZ (hw _ (List.mem_of_getElem? (i := 13) rfl))) (mvT hZ (hw _ (List.mem_of_getElem? (i := 12) rfl))) (by decide) (backOf (W := 0) (rmR0 l Z a0 hw [] b2 h2 n0 Zs4 F_proposals_b2) hZ (hw _ (List.mem_of_getElem? (i := 14) rfl)) (hw _ (List.mem_of_getElem? (i := 3) rfl)) (by decide) (by decide)) q6a q6c (g := (mkF m 148 #[iv p1, iv p2, iv (0 : Int32), rv b2, iv (0 : Int32), .unset, .unset, .unset, .unset] [(.ref b2)])) rfl (by rw [hml]; rfl) (Steps.refl _) (argsL := []) (rest := []) (lenOf pd_1 rfl) rfl (by show 2 * 0 + _ ≤ _; exact Nat.le_of_eq rfl) (hb hby at_148) (fun _ _ => ⟨rfl, e3, (by decide : 1 + 0 ≤ _), (by decide : 2 + 0 ≤ _)⟩)
    dsimp only [Pt.U, Pt.locs, Pt.cells, Pt.slots] at X6 l6 y6 z6 st6 hQ6
    subst l6 y6 z6
    obtain ⟨rfl, N6q, e6q⟩ := hQ6
    have N6 := Fr.app N3 N6q
    have e6 : T6.heap = h2 := e6q
    obtain ⟨cq7, kq7, q7a, q7b, q7c⟩ := isOf hZ e6 A2
    obtain ⟨_, _, ⟨T7, L7, k7, n7⟩, -, X7, ⟨Lc7, hQ7, l7, y7, z7⟩, st7⟩ := X6.virtualBack hx (y := (⟨"com/example/clockwright/clockwright/mcmc/Acceptance", "proposals", "()J"⟩ : MethodName)) (z := (⟨"com/example/clockwright/clockwright/mcmc/Acceptance", "proposals", "()J"⟩ : MethodName)) hown (mvT hZ (hw _ (List.mem_of_getElem? (i := 18) rfl))) (mvT hZ (hw _ (List.mem_of_getElem? (i := 19) rfl))) (notFace_of_selects (args := #[]) (mvT hZ (hw _ (List.mem_of_getElem? (i := 21) rfl)))) (mvT hZ (hw _ (List.mem_of_getElem? (i := 21) rfl))) (mvT hZ (hw _ (List.mem_of_getElem? (i := 20) rfl))) (by decide) (backOf (W := 0) (rm4 l Z a0 hw [] b2 (0 : Int64) h2 n0 Zs4 F_proposals_b2) hZ (hw _ (List.mem_of_getElem? (i := 22) rfl)) (hw _ (List.mem_of_getElem? (i := 3) rfl)) (by decide) (by decide)) q7a q7c (g := (mkF m 154 #[iv p1, iv p2, iv (0 : Int32), rv b2, iv (0 : Int32), .val (.double (9221120237041090560 : UInt64)), .second, .unset, .unset] [(.ref b2)])) rfl (by rw [hml]; rfl) (Steps.refl _) (argsL := []) (rest := []) (lenOf pd_2 rfl) rfl (by show 2 * 0 + _ ≤ _; exact Nat.le_of_eq rfl) (hb hby at_154) (fun _ _ => ⟨rfl, e6, (by decide : 1 + 0 ≤ _), (by decide : 2 + 0 ≤ _)⟩)
    dsimp only [Pt.U, Pt.locs, Pt.cells, Pt.slots] at X7 l7 y7 z7 st7 hQ7
    subst l7 y7 z7
    obtain ⟨rfl, N7q, e7q⟩ := hQ7
    have N7 := Fr.app N6 N7q
    have e7 : T7.heap = h2 := e7q
    obtain ⟨cq8, kq8, q8a, q8b, q8c⟩ := isOf hZ e7 A2
    obtain ⟨_, _, ⟨T8, L8, k8, n8⟩, -, X8, ⟨Lc8, hQ8, l8, y8, z8⟩, st8⟩ := X7.virtualBack hx (y := (⟨"com/example/clockwright/clockwright/mcmc/Acceptance", "accepted", "()J"⟩ : MethodName)) (z := (⟨"com/example/clockwright/clockwright/mcmc/Acceptance", "accepted", "()J"⟩ : MethodName)) hown (mvT hZ (hw _ (List.mem_of_getElem? (i := 23) rfl))) (mvT hZ (hw _ (List.mem_of_getElem? (i := 24) rfl))) (notFace_of_selects (args := #[]) (mvT hZ (hw _ (List.mem_of_getElem? (i := 26) rfl)))) (mvT hZ (hw _ (List.mem_of_getElem? (i := 26) rfl))) (mvT hZ (hw _ (List.mem_of_getElem? (i := 25) rfl))) (by decide) (backOf (W := 0) (rm5 l Z a0 hw [] b2 (0 : Int64) h2 n0 Zs4 F_accepted_b2) hZ (hw _ (List.mem_of_getElem? (i := 27) rfl)) (hw _ (List.mem_of_getElem? (i := 3) rfl)) (by decide) (by decide)) q8a q8c (g := (mkF m 164 #[iv p1, iv p2, iv (0 : Int32), rv b2, iv (0 : Int32), .val (.double (9221120237041090560 : UInt64)), .second, .unset, .unset] [(.ref b2)])) rfl (by rw [hml]; rfl) (Steps.refl _) (argsL := []) (rest := []) (lenOf pd_2 rfl) rfl (by show 2 * 0 + _ ≤ _; exact Nat.le_of_eq rfl) (hb hby at_164) (fun _ _ => ⟨rfl, e7, (by decide : 1 + 0 ≤ _), (by decide : 2 + 0 ≤ _)⟩)
    dsimp only [Pt.U, Pt.locs, Pt.cells, Pt.slots] at X8 l8 y8 z8 st8 hQ8
    subst l8 y8 z8
    obtain ⟨rfl, N8q, e8q⟩ := hQ8
    have N8 := Fr.app N7 N8q
    have e8 : T8.heap = h2 := e8q
    have pre9 : ∀ tg, own_S p e below T8 m 193 #[iv p1, iv p2, iv (0 : Int32), rv b2, iv (0 : Int32), .val (.double (9221120237041090560 : UInt64)), .second, .unset, .unset] [(.int (1 : Int32))] tg → Steps p.tables e below (s₁.setTop (entryFrame m #[(.int p1), (.int p2)] maxLocals)) tg := fun tg k => pre5 tg (by
      show own_S p e below T3 m 18 #[iv p1, iv p2, iv (0 : Int32), rv b2, iv (0 : Int32), .unset, .unset, .unset, .unset] [] _
      refine XS.iloadN X3.here hx rfl (hb hby at_18) rfl ?_
      show own_S p e below T3 m 19 #[iv p1, iv p2, iv (0 : Int32), rv b2, iv (0 : Int32), .unset, .unset, .unset, .unset] [(.int (0 : Int32))] _
      refine XS.iconst X3.here hx rfl (hb hby at_19) ?_
      show own_S p e below T3 m 20 #[iv p1, iv p2, iv (0 : Int32), rv b2, iv (0 : Int32), .unset, .unset, .unset, .unset] [(.int (1 : Int32)), (.int (0 : Int32))] _
      refine XS.icmpYes X3.here hx rfl (pc0 := 20) (pc' := 50) rfl (hb hby at_20) rfl (tlt (by decide : (0 : Int32) < (1 : Int32))).1 (by decide) (by decide) ?_
      show own_S p e below T3 m 50 #[iv p1, iv p2, iv (0 : Int32), rv b2, iv (0 : Int32), .unset, .unset, .unset, .unset] [] _
      refine XS.iloadN X3.here hx rfl (hb hby at_50) rfl ?_
      show own_S p e below T3 m 51 #[iv p1, iv p2, iv (0 : Int32), rv b2, iv (0 : Int32), .unset, .unset, .unset, .unset] [(.int (0 : Int32))] _
      refine XS.iconst X3.here hx rfl (hb hby at_51) ?_
      show own_S p e below T3 m 52 #[iv p1, iv p2, iv (0 : Int32), rv b2, iv (0 : Int32), .unset, .unset, .unset, .unset] [(.int (2 : Int32)), (.int (0 : Int32))] _
      refine XS.icmpYes X3.here hx rfl (pc0 := 52) (pc' := 82) rfl (hb hby at_52) rfl (tlt (by decide : (0 : Int32) < (2 : Int32))).1 (by decide) (by decide) ?_
      show own_S p e below T3 m 82 #[iv p1, iv p2, iv (0 : Int32), rv b2, iv (0 : Int32), .unset, .unset, .unset, .unset] [] _
      refine XS.iloadN X3.here hx rfl (hb hby at_82) rfl ?_
      show own_S p e below T3 m 83 #[iv p1, iv p2, iv (0 : Int32), rv b2, iv (0 : Int32), .unset, .unset, .unset, .unset] [(.int (0 : Int32))] _
      refine XS.iconst X3.here hx rfl (hb hby at_83) ?_
      show own_S p e below T3 m 84 #[iv p1, iv p2, iv (0 : Int32), rv b2, iv (0 : Int32), .unset, .unset, .unset, .unset] [(.int (3 : Int32)), (.int (0 : Int32))] _
      refine XS.icmpYes X3.here hx rfl (pc0 := 84) (pc' := 114) rfl (hb hby at_84) rfl (tlt (by decide : (0 : Int32) < (3 : Int32))).1 (by decide) (by decide) ?_
      show own_S p e below T3 m 114 #[iv p1, iv p2, iv (0 : Int32), rv b2, iv (0 : Int32), .unset, .unset, .unset, .unset] [] _
      refine XS.iloadN X3.here hx rfl (hb hby at_114) rfl ?_
      show own_S p e below T3 m 115 #[iv p1, iv p2, iv (0 : Int32), rv b2, iv (0 : Int32), .unset, .unset, .unset, .unset] [(.int (0 : Int32))] _
      refine XS.iconst X3.here hx rfl (hb hby at_115) ?_
      show own_S p e below T3 m 116 #[iv p1, iv p2, iv (0 : Int32), rv b2, iv (0 : Int32), .unset, .unset, .unset, .unset] [(.int (4 : Int32)), (.int (0 : Int32))] _
      refine XS.icmpYes X3.here hx rfl (pc0 := 116) (pc' := 147) rfl (hb hby at_116) rfl (tlt (by decide : (0 : Int32) < (4 : Int32))).1 (by decide) (by decide) ?_
      show own_S p e below T3 m 147 #[iv p1, iv p2, iv (0 : Int32), rv b2, iv (0 : Int32), .unset, .unset, .unset, .unset] [] _
      refine XS.aloadN X3.here hx rfl (hb hby at_147) rfl rfl ?_
      show own_S p e below T3 m 148 #[iv p1, iv p2, iv (0 : Int32), rv b2, iv (0 : Int32), .unset, .unset, .unset, .unset] [(.ref b2)] _
      refine st6.trans ?_
      show own_S p e below T6 m 151 #[iv p1, iv p2, iv (0 : Int32), rv b2, iv (0 : Int32), .unset, .unset, .unset, .unset] [(.double (9221120237041090560 : UInt64))] _
      refine XS.dstore X6.here hx rfl (hb hby at_151) rfl (l' := #[iv p1, iv p2, iv (0 : Int32), rv b2, iv (0 : Int32), .val (.double (9221120237041090560 : UInt64)), .second, .unset, .unset]) rfl ?_
      show own_S p e below T6 m 153 #[iv p1, iv p2, iv (0 : Int32), rv b2, iv (0 : Int32), .val (.double (9221120237041090560 : UInt64)), .second, .unset, .unset] [] _
      refine XS.aloadN X6.here hx rfl (hb hby at_153) rfl rfl ?_
      show own_S p e below T6 m 154 #[iv p1, iv p2, iv (0 : Int32), rv b2, iv (0 : Int32), .val (.double (9221120237041090560 : UInt64)), .second, .unset, .unset] [(.ref b2)] _
      refine st7.trans ?_
      show own_S p e below T7 m 157 #[iv p1, iv p2, iv (0 : Int32), rv b2, iv (0 : Int32), .val (.double (9221120237041090560 : UInt64)), .second, .unset, .unset] [(.long (0 : Int64))] _
      refine XS.iloadN X7.here hx rfl (hb hby at_157) rfl ?_
      show own_S p e below T7 m 158 #[iv p1, iv p2, iv (0 : Int32), rv b2, iv (0 : Int32), .val (.double (9221120237041090560 : UInt64)), .second, .unset, .unset] [(.int (0 : Int32)), (.long (0 : Int64))] _
      refine XS.i2l X7.here hx rfl (hb hby at_158) rfl ?_
      show own_S p e below T7 m 159 #[iv p1, iv p2, iv (0 : Int32), rv b2, iv (0 : Int32), .val (.double (9221120237041090560 : UInt64)), .second, .unset, .unset] [(.long ((0 : Int32).toInt64)), (.long (0 : Int64))] _
      refine XS.lcmp X7.here hx rfl (hb hby at_159) rfl ?_
      show own_S p e below T7 m 160 #[iv p1, iv p2, iv (0 : Int32), rv b2, iv (0 : Int32), .val (.double (9221120237041090560 : UInt64)), .second, .unset, .unset] [(.int (lcmpW (0 : Int64) ((0 : Int32).toInt64)))] _
      refine XS.ifNo X7.here hx rfl (hb hby at_160) rfl ((if0 _ _).trans (teq ((lw_eq _ _).mpr (by decide : (0 : Int64) = ((0 : Int32).toInt64)))).2) ?_
      show own_S p e below T7 m 163 #[iv p1, iv p2, iv (0 : Int32), rv b2, iv (0 : Int32), .val (.double (9221120237041090560 : UInt64)), .second, .unset, .unset] [] _
      refine XS.aloadN X7.here hx rfl (hb hby at_163) rfl rfl ?_
      show own_S p e below T7 m 164 #[iv p1, iv p2, iv (0 : Int32), rv b2, iv (0 : Int32), .val (.double (9221120237041090560 : UInt64)), .second, .unset, .unset] [(.ref b2)] _
      refine st8.trans ?_
      show own_S p e below T8 m 167 #[iv p1, iv p2, iv (0 : Int32), rv b2, iv (0 : Int32), .val (.double (9221120237041090560 : UInt64)), .second, .unset, .unset] [(.long (0 : Int64))] _
      refine XS.iload X8.here hx rfl (hb hby at_167) rfl ?_
      show own_S p e below T8 m 169 #[iv p1, iv p2, iv (0 : Int32), rv b2, iv (0 : Int32), .val (.double (9221120237041090560 : UInt64)), .second, .unset, .unset] [(.int (0 : Int32)), (.long (0 : Int64))] _
      refine XS.i2l X8.here hx rfl (hb hby at_169) rfl ?_
      show own_S p e below T8 m 170 #[iv p1, iv p2, iv (0 : Int32), rv b2, iv (0 : Int32), .val (.double (9221120237041090560 : UInt64)), .second, .unset, .unset] [(.long ((0 : Int32).toInt64)), (.long (0 : Int64))] _
      refine XS.lcmp X8.here hx rfl (hb hby at_170) rfl ?_
      show own_S p e below T8 m 171 #[iv p1, iv p2, iv (0 : Int32), rv b2, iv (0 : Int32), .val (.double (9221120237041090560 : UInt64)), .second, .unset, .unset] [(.int (lcmpW (0 : Int64) ((0 : Int32).toInt64)))] _
      refine XS.ifYes X8.here hx rfl (pc0 := 171) (pc' := 176) rfl (hb hby at_171) rfl ((if0 _ _).trans (teq ((lw_eq _ _).mpr (by decide : (0 : Int64) = ((0 : Int32).toInt64)))).1) (by decide) (by decide) ?_
      show own_S p e below T8 m 176 #[iv p1, iv p2, iv (0 : Int32), rv b2, iv (0 : Int32), .val (.double (9221120237041090560 : UInt64)), .second, .unset, .unset] [] _
      refine XS.iloadN X8.here hx rfl (hb hby at_176) rfl ?_
      show own_S p e below T8 m 177 #[iv p1, iv p2, iv (0 : Int32), rv b2, iv (0 : Int32), .val (.double (9221120237041090560 : UInt64)), .second, .unset, .unset] [(.int (0 : Int32))] _
      refine XS.ifNo X8.here hx rfl (hb hby at_177) rfl ((if0 _ _).trans (teq (by decide : (0 : Int32) = (0 : Int32))).2) ?_
      show own_S p e below T8 m 180 #[iv p1, iv p2, iv (0 : Int32), rv b2, iv (0 : Int32), .val (.double (9221120237041090560 : UInt64)), .second, .unset, .unset] [] _
      refine XS.dload X8.here hx rfl (hb hby at_180) rfl ?_
      show own_S p e below T8 m 182 #[iv p1, iv p2, iv (0 : Int32), rv b2, iv (0 : Int32), .val (.double (9221120237041090560 : UInt64)), .second, .unset, .unset] [(.double (9221120237041090560 : UInt64))] _
      refine XS.dload X8.here hx rfl (hb hby at_182) rfl ?_
      show own_S p e below T8 m 184 #[iv p1, iv p2, iv (0 : Int32), rv b2, iv (0 : Int32), .val (.double (9221120237041090560 : UInt64)), .second, .unset, .unset] [(.double (9221120237041090560 : UInt64)), (.double (9221120237041090560 : UInt64))] _
      refine XS.dcmpS X8.here hx rfl (hb hby at_184) rfl (v := (-1 : Int32)) (by decide +kernel) ?_
      show own_S p e below T8 m 185 #[iv p1, iv p2, iv (0 : Int32), rv b2, iv (0 : Int32), .val (.double (9221120237041090560 : UInt64)), .second, .unset, .unset] [(.int (-1 : Int32))] _
      refine XS.ifNo X8.here hx rfl (hb hby at_185) rfl ((if0 _ _).trans (feq (by decide : ¬ ((-1 : Int32) = (0 : Int32)))).1) ?_
      show own_S p e below T8 m 188 #[iv p1, iv p2, iv (0 : Int32), rv b2, iv (0 : Int32), .val (.double (9221120237041090560 : UInt64)), .second, .unset, .unset] [] _
      refine XS.iconst X8.here hx rfl (hb hby at_188) ?_
      show own_S p e below T8 m 189 #[iv p1, iv p2, iv (0 : Int32), rv b2, iv (0 : Int32), .val (.double (9221120237041090560 : UInt64)), .second, .unset, .unset] [(.int (1 : Int32))] _
      refine XS.goto X8.here hx rfl (pc0 := 189) (pc' := 193) rfl (hb hby at_189) (by decide) (by decide) ?_
      exact k)
    obtain ⟨fs, hr, hrun, hended, hW, hsame⟩ := X8.leave (v := some (.int (nar .boolean (1 : Int32)))) (fun h => by rw [Bd.returns] at h; cases h)
    refine ⟨_, _, pre9 _ ?_, hrun, hended, _, _, rfl, ?_, ⟨_, rfl⟩, hW, hsame.mono (by decide) (by decide)⟩
    · show own_S p e below T8 m 193 #[iv p1, iv p2, iv (0 : Int32), rv b2, iv (0 : Int32), .val (.double (9221120237041090560 : UInt64)), .second, .unset, .unset] [(.int (1 : Int32))] _
      exact retN X8 hx (t := .boolean) Bd.returns (by simp) (hb hby at_193) hr
    · show Q0 Z p1 p2 h0 n0 _ T8.heap _
      rw [e8]
      exact ⟨rfl, N8⟩
  ·  -- case
    obtain ⟨Tj10, hj10, Lj10, Xj10, ej10, Nj10, Kj10, a_1, A_1, fz_1, h_a_1, Fj10_0, Fj10_1, Fj10_2, prej10⟩ : ∃ (Tj : State) (hj : Heap) (Lj : List Loc), Stand p l e room_1 s m #[(.int p1), (.int p2)] below meth c Tj Lj 1 2 ∧ Tj.heap = hj ∧ Fr n0 Lj ∧ Keep h2 hj [b2] ∧ ∃ a_1 : Int32, ∃ A_1 : Int64, ∃ fz_1 : Int32, ((a_1 = 0 ∧ A_1 = 0) ∨ (a_1 = 1 ∧ A_1 = 1)) ∧ (Exa Z hj b2 "com/example/clockwright/clockwright/mcmc/Acceptance") ∧ (Fld Z hj b2 "com/example/clockwright/clockwright/mcmc/Acceptance" "proposals" "J" (.long (1 : Int64))) ∧ (Fld Z hj b2 "com/example/clockwright/clockwright/mcmc/Acceptance" "accepted" "J" (.long A_1)) ∧ ∀ tg, own_S p e below Tj m 50 #[iv p1, iv p2, iv (1 : Int32), rv b2, iv a_1, iv fz_1, .unset, .unset, .unset] [] tg → Steps p.tables e below (s₁.setTop (entryFrame m #[(.int p1), (.int p2)] maxLocals)) tg := by
      have pre12 : ∀ tg, own_S p e below T3 m 26 #[iv p1, iv p2, iv (1 : Int32), rv b2, iv (0 : Int32), .unset, .unset, .unset, .unset] [(.int (p2 &&& (1 : Int32)))] tg → Steps p.tables e below (s₁.setTop (entryFrame m #[(.int p1), (.int p2)] maxLocals)) tg := fun tg k => pre5 tg (by
        show own_S p e below T3 m 18 #[iv p1, iv p2, iv (1 : Int32), rv b2, iv (0 : Int32), .unset, .unset, .unset, .unset] [] _
        refine XS.iloadN X3.here hx rfl (hb hby at_18) rfl ?_
        show own_S p e below T3 m 19 #[iv p1, iv p2, iv (1 : Int32), rv b2, iv (0 : Int32), .unset, .unset, .unset, .unset] [(.int (1 : Int32))] _
        refine XS.iconst X3.here hx rfl (hb hby at_19) ?_
        show own_S p e below T3 m 20 #[iv p1, iv p2, iv (1 : Int32), rv b2, iv (0 : Int32), .unset, .unset, .unset, .unset] [(.int (1 : Int32)), (.int (1 : Int32))] _
        refine XS.icmpNo X3.here hx rfl (hb hby at_20) rfl (flt (by decide : ¬ ((1 : Int32) < (1 : Int32)))).1 ?_
        show own_S p e below T3 m 23 #[iv p1, iv p2, iv (1 : Int32), rv b2, iv (0 : Int32), .unset, .unset, .unset, .unset] [] _
        refine XS.iloadN X3.here hx rfl (hb hby at_23) rfl ?_
        show own_S p e below T3 m 24 #[iv p1, iv p2, iv (1 : Int32), rv b2, iv (0 : Int32), .unset, .unset, .unset, .unset] [(.int p2)] _
        refine XS.iconst X3.here hx rfl (hb hby at_24) ?_
        show own_S p e below T3 m 25 #[iv p1, iv p2, iv (1 : Int32), rv b2, iv (0 : Int32), .unset, .unset, .unset, .unset] [(.int (1 : Int32)), (.int p2)] _
        refine XS.iand X3.here hx rfl (hb hby at_25) rfl ?_
        exact k)
      by_cases hc26_11 : (p2 &&& (1 : Int32)) = (0 : Int32)
      ·  -- pc 26 yes
        obtain ⟨cq13, kq13, q13a, q13b, q13c⟩ := isOf hZ e3 A2
        obtain ⟨_, _, ⟨T13, L13, k13, n13⟩, -, X13, ⟨Lc13, hQ13, l13, y13, z13⟩, st13⟩ := X3.virtualBack hx (y := (⟨"com/example/clockwright/clockwright/mcmc/Acceptance", "count", "(Z)V"⟩ : MethodName)) (z := (⟨"com/example/clockwright/clockwright/mcmc/Acceptance", "count", "(Z)V"⟩ : MethodName)) hown (mvT hZ (hw _ (List.mem_of_getElem? (i := 30) rfl))) (mvT hZ (hw _ (List.mem_of_getElem? (i := 31) rfl))) (notFace_of_selects (args := #[]) (mvT hZ (hw _ (List.mem_of_getElem? (i := 33) rfl)))) (mvT hZ (hw _ (List.mem_of_getElem? (i := 33) rfl))) (mvT hZ (hw _ (List.mem_of_getElem? (i := 32) rfl))) (by decide) (backOf (W := 0) (rm6 l Z a0 hw [] b2 (0 : Int32) (0 : Int64) (0 : Int64) h2 n0 Zs4 A2 g_b2 F_proposals_b2 F_accepted_b2) hZ (hw _ (List.mem_of_getElem? (i := 34) rfl)) (hw _ (List.mem_of_getElem? (i := 3) rfl)) (by decide) (by decide)) q13a q13c (g := (mkF m 39 #[iv p1, iv p2, iv (1 : Int32), rv b2, iv (0 : Int32), iv (0 : Int32), .unset, .unset, .unset] [(.int (0 : Int32)), (.ref b2)])) rfl (by rw [hml]; rfl) (Steps.refl _) (argsL := [(.int (0 : Int32))]) (rest := []) (lenOf pd_3 rfl) rfl (by show 2 * 0 + _ ≤ _; exact Nat.le_of_eq rfl) (hb hby at_39) (fun _ _ => ⟨rfl, e3, (by decide : 1 + 0 ≤ _), (by decide : 2 + 0 ≤ _)⟩)
        dsimp only [Pt.U, Pt.locs, Pt.cells, Pt.slots] at X13 l13 y13 z13 st13 hQ13
        subst l13 y13 z13
        obtain ⟨rfl, N13q, K13, E13c, Fp13, Fa13⟩ := hQ13
        have N13 := Fr.app N3 N13q
        rw [show ((0 : Int64) + (1 : Int64)) = (1 : Int64) from by decide] at Fp13
        rw [show ((0 : Int64) + own_one (0 : Int32)) = (0 : Int64) from by simp [own_one]] at Fa13
        have pre14 : ∀ tg, own_S p e below T13 m 50 #[iv p1, iv p2, iv (1 : Int32), rv b2, iv (0 : Int32), iv (0 : Int32), .unset, .unset, .unset] [] tg → Steps p.tables e below (s₁.setTop (entryFrame m #[(.int p1), (.int p2)] maxLocals)) tg := fun tg k => pre12 tg (by
          show own_S p e below T3 m 26 #[iv p1, iv p2, iv (1 : Int32), rv b2, iv (0 : Int32), .unset, .unset, .unset, .unset] [(.int (p2 &&& (1 : Int32)))] _
          refine XS.ifYes X3.here hx rfl (pc0 := 26) (pc' := 33) rfl (hb hby at_26) rfl ((if0 _ _).trans (teq hc26_11).1) (by decide) (by decide) ?_
          show own_S p e below T3 m 33 #[iv p1, iv p2, iv (1 : Int32), rv b2, iv (0 : Int32), .unset, .unset, .unset, .unset] [] _
          refine XS.iconst X3.here hx rfl (hb hby at_33) ?_
          show own_S p e below T3 m 34 #[iv p1, iv p2, iv (1 : Int32), rv b2, iv (0 : Int32), .unset, .unset, .unset, .unset] [(.int (0 : Int32))] _
          refine XS.istore X3.here hx rfl (hb hby at_34) rfl (l' := #[iv p1, iv p2, iv (1 : Int32), rv b2, iv (0 : Int32), iv (0 : Int32), .unset, .unset, .unset]) rfl ?_
          show own_S p e below T3 m 36 #[iv p1, iv p2, iv (1 : Int32), rv b2, iv (0 : Int32), iv (0 : Int32), .unset, .unset, .unset] [] _
          refine XS.aloadN X3.here hx rfl (hb hby at_36) rfl rfl ?_
          show own_S p e below T3 m 37 #[iv p1, iv p2, iv (1 : Int32), rv b2, iv (0 : Int32), iv (0 : Int32), .unset, .unset, .unset] [(.ref b2)] _
          refine XS.iload X3.here hx rfl (hb hby at_37) rfl ?_
          show own_S p e below T3 m 39 #[iv p1, iv p2, iv (1 : Int32), rv b2, iv (0 : Int32), iv (0 : Int32), .unset, .unset, .unset] [(.int (0 : Int32)), (.ref b2)] _
          refine st13.trans ?_
          show own_S p e below T13 m 42 #[iv p1, iv p2, iv (1 : Int32), rv b2, iv (0 : Int32), iv (0 : Int32), .unset, .unset, .unset] [] _
          refine XS.iload X13.here hx rfl (hb hby at_42) rfl ?_
          show own_S p e below T13 m 44 #[iv p1, iv p2, iv (1 : Int32), rv b2, iv (0 : Int32), iv (0 : Int32), .unset, .unset, .unset] [(.int (0 : Int32))] _
          refine XS.ifYes X13.here hx rfl (pc0 := 44) (pc' := 50) rfl (hb hby at_44) rfl ((if0 _ _).trans (teq (by decide : (0 : Int32) = (0 : Int32))).1) (by decide) (by decide) ?_
          exact k)
        exact ⟨T13, _, _, X13, rfl, N13, ((Keep.refl h2 [b2]).trans K13 (allS (Or.inl (List.mem_of_getElem? (i := 0) rfl)) all0)), (0 : Int32), (0 : Int64), (0 : Int32), (by decide), E13c, Fp13, Fa13, pre14⟩
      ·  -- pc 26 no
        obtain ⟨cq15, kq15, q15a, q15b, q15c⟩ := isOf hZ e3 A2
        obtain ⟨_, _, ⟨T15, L15, k15, n15⟩, -, X15, ⟨Lc15, hQ15, l15, y15, z15⟩, st15⟩ := X3.virtualBack hx (y := (⟨"com/example/clockwright/clockwright/mcmc/Acceptance", "count", "(Z)V"⟩ : MethodName)) (z := (⟨"com/example/clockwright/clockwright/mcmc/Acceptance", "count", "(Z)V"⟩ : MethodName)) hown (mvT hZ (hw _ (List.mem_of_getElem? (i := 30) rfl))) (mvT hZ (hw _ (List.mem_of_getElem? (i := 31) rfl))) (notFace_of_selects (args := #[]) (mvT hZ (hw _ (List.mem_of_getElem? (i := 33) rfl)))) (mvT hZ (hw _ (List.mem_of_getElem? (i := 33) rfl))) (mvT hZ (hw _ (List.mem_of_getElem? (i := 32) rfl))) (by decide) (backOf (W := 0) (rm6 l Z a0 hw [] b2 (1 : Int32) (0 : Int64) (0 : Int64) h2 n0 Zs4 A2 g_b2 F_proposals_b2 F_accepted_b2) hZ (hw _ (List.mem_of_getElem? (i := 34) rfl)) (hw _ (List.mem_of_getElem? (i := 3) rfl)) (by decide) (by decide)) q15a q15c (g := (mkF m 39 #[iv p1, iv p2, iv (1 : Int32), rv b2, iv (0 : Int32), iv (1 : Int32), .unset, .unset, .unset] [(.int (1 : Int32)), (.ref b2)])) rfl (by rw [hml]; rfl) (Steps.refl _) (argsL := [(.int (1 : Int32))]) (rest := []) (lenOf pd_3 rfl) rfl (by show 2 * 0 + _ ≤ _; exact Nat.le_of_eq rfl) (hb hby at_39) (fun _ _ => ⟨rfl, e3, (by decide : 1 + 0 ≤ _), (by decide : 2 + 0 ≤ _)⟩)
        dsimp only [Pt.U, Pt.locs, Pt.cells, Pt.slots] at X15 l15 y15 z15 st15 hQ15
        subst l15 y15 z15
        obtain ⟨rfl, N15q, K15, E15c, Fp15, Fa15⟩ := hQ15
        have N15 := Fr.app N3 N15q
        rw [show ((0 : Int64) + (1 : Int64)) = (1 : Int64) from by decide] at Fp15
        rw [show ((0 : Int64) + own_one (1 : Int32)) = ((0 : Int64) + (1 : Int64)) from by simp [own_one]] at Fa15
        have pre16 : ∀ tg, own_S p e below T15 m 50 #[iv p1, iv p2, iv (1 : Int32), rv b2, iv ((0 : Int32) + (1 : Int32)), iv (1 : Int32), .unset, .unset, .unset] [] tg → Steps p.tables e below (s₁.setTop (entryFrame m #[(.int p1), (.int p2)] maxLocals)) tg := fun tg k => pre12 tg (by
          show own_S p e below T3 m 26 #[iv p1, iv p2, iv (1 : Int32), rv b2, iv (0 : Int32), .unset, .unset, .unset, .unset] [(.int (p2 &&& (1 : Int32)))] _
          refine XS.ifNo X3.here hx rfl (hb hby at_26) rfl ((if0 _ _).trans (feq hc26_11).1) ?_
          show own_S p e below T3 m 29 #[iv p1, iv p2, iv (1 : Int32), rv b2, iv (0 : Int32), .unset, .unset, .unset, .unset] [] _
          refine XS.iconst X3.here hx rfl (hb hby at_29) ?_
          show own_S p e below T3 m 30 #[iv p1, iv p2, iv (1 : Int32), rv b2, iv (0 : Int32), .unset, .unset, .unset, .unset] [(.int (1 : Int32))] _
          refine XS.goto X3.here hx rfl (pc0 := 30) (pc' := 34) rfl (hb hby at_30) (by decide) (by decide) ?_
          show own_S p e below T3 m 34 #[iv p1, iv p2, iv (1 : Int32), rv b2, iv (0 : Int32), .unset, .unset, .unset, .unset] [(.int (1 : Int32))] _
          refine XS.istore X3.here hx rfl (hb hby at_34) rfl (l' := #[iv p1, iv p2, iv (1 : Int32), rv b2, iv (0 : Int32), iv (1 : Int32), .unset, .unset, .unset]) rfl ?_
          show own_S p e below T3 m 36 #[iv p1, iv p2, iv (1 : Int32), rv b2, iv (0 : Int32), iv (1 : Int32), .unset, .unset, .unset] [] _
          refine XS.aloadN X3.here hx rfl (hb hby at_36) rfl rfl ?_
          show own_S p e below T3 m 37 #[iv p1, iv p2, iv (1 : Int32), rv b2, iv (0 : Int32), iv (1 : Int32), .unset, .unset, .unset] [(.ref b2)] _
          refine XS.iload X3.here hx rfl (hb hby at_37) rfl ?_
          show own_S p e below T3 m 39 #[iv p1, iv p2, iv (1 : Int32), rv b2, iv (0 : Int32), iv (1 : Int32), .unset, .unset, .unset] [(.int (1 : Int32)), (.ref b2)] _
          refine st15.trans ?_
          show own_S p e below T15 m 42 #[iv p1, iv p2, iv (1 : Int32), rv b2, iv (0 : Int32), iv (1 : Int32), .unset, .unset, .unset] [] _
          refine XS.iload X15.here hx rfl (hb hby at_42) rfl ?_
          show own_S p e below T15 m 44 #[iv p1, iv p2, iv (1 : Int32), rv b2, iv (0 : Int32), iv (1 : Int32), .unset, .unset, .unset] [(.int (1 : Int32))] _
          refine XS.ifNo X15.here hx rfl (hb hby at_44) rfl ((if0 _ _).trans (feq (by decide : ¬ ((1 : Int32) = (0 : Int32)))).1) ?_
          show own_S p e below T15 m 47 #[iv p1, iv p2, iv (1 : Int32), rv b2, iv (0 : Int32), iv (1 : Int32), .unset, .unset, .unset] [] _
          refine XS.iinc X15.here hx rfl (hb hby at_47) rfl (l' := #[iv p1, iv p2, iv (1 : Int32), rv b2, iv ((0 : Int32) + (1 : Int32)), iv (1 : Int32), .unset, .unset, .unset]) rfl ?_
          exact k)
        exact ⟨T15, _, _, X15, rfl, N15, ((Keep.refl h2 [b2]).trans K15 (allS (Or.inl (List.mem_of_getElem? (i := 0) rfl)) all0)), ((0 : Int32) + (1 : Int32)), ((0 : Int64) + (1 : Int64)), (1 : Int32), (by decide), E15c, Fp15, Fa15, pre16⟩
    have pre17 : ∀ tg, own_S p e below Tj10 m 147 #[iv p1, iv p2, iv (1 : Int32), rv b2, iv a_1, iv fz_1, .unset, .unset, .unset] [] tg → Steps p.tables e below (s₁.setTop (entryFrame m #[(.int p1), (.int p2)] maxLocals)) tg := fun tg k => prej10 tg (by
      show own_S p e below Tj10 m 50 #[iv p1, iv p2, iv (1 : Int32), rv b2, iv a_1, iv fz_1, .unset, .unset, .unset] [] _
      refine XS.iloadN Xj10.here hx rfl (hb hby at_50) rfl ?_
      show own_S p e below Tj10 m 51 #[iv p1, iv p2, iv (1 : Int32), rv b2, iv a_1, iv fz_1, .unset, .unset, .unset] [(.int (1 : Int32))] _
      refine XS.iconst Xj10.here hx rfl (hb hby at_51) ?_
      show own_S p e below Tj10 m 52 #[iv p1, iv p2, iv (1 : Int32), rv b2, iv a_1, iv fz_1, .unset, .unset, .unset] [(.int (2 : Int32)), (.int (1 : Int32))] _
      refine XS.icmpYes Xj10.here hx rfl (pc0 := 52) (pc' := 82) rfl (hb hby at_52) rfl (tlt (by decide : (1 : Int32) < (2 : Int32))).1 (by decide) (by decide) ?_
      show own_S p e below Tj10 m 82 #[iv p1, iv p2, iv (1 : Int32), rv b2, iv a_1, iv fz_1, .unset, .unset, .unset] [] _
      refine XS.iloadN Xj10.here hx rfl (hb hby at_82) rfl ?_
      show own_S p e below Tj10 m 83 #[iv p1, iv p2, iv (1 : Int32), rv b2, iv a_1, iv fz_1, .unset, .unset, .unset] [(.int (1 : Int32))] _
      refine XS.iconst Xj10.here hx rfl (hb hby at_83) ?_
      show own_S p e below Tj10 m 84 #[iv p1, iv p2, iv (1 : Int32), rv b2, iv a_1, iv fz_1, .unset, .unset, .unset] [(.int (3 : Int32)), (.int (1 : Int32))] _
      refine XS.icmpYes Xj10.here hx rfl (pc0 := 84) (pc' := 114) rfl (hb hby at_84) rfl (tlt (by decide : (1 : Int32) < (3 : Int32))).1 (by decide) (by decide) ?_
      show own_S p e below Tj10 m 114 #[iv p1, iv p2, iv (1 : Int32), rv b2, iv a_1, iv fz_1, .unset, .unset, .unset] [] _
      refine XS.iloadN Xj10.here hx rfl (hb hby at_114) rfl ?_
      show own_S p e below Tj10 m 115 #[iv p1, iv p2, iv (1 : Int32), rv b2, iv a_1, iv fz_1, .unset, .unset, .unset] [(.int (1 : Int32))] _
      refine XS.iconst Xj10.here hx rfl (hb hby at_115) ?_
      show own_S p e below Tj10 m 116 #[iv p1, iv p2, iv (1 : Int32), rv b2, iv a_1, iv fz_1, .unset, .unset, .unset] [(.int (4 : Int32)), (.int (1 : Int32))] _
      refine XS.icmpYes Xj10.here hx rfl (pc0 := 116) (pc' := 147) rfl (hb hby at_116) rfl (tlt (by decide : (1 : Int32) < (4 : Int32))).1 (by decide) (by decide) ?_
      exact k)
    rcases h_a_1 with ⟨rfl, rfl⟩ | ⟨rfl, rfl⟩
    ·  -- case
      have Zs19 : n0 ≤ hj10.size := (Nat.le_trans Zs4 Kj10.1)
      obtain ⟨cq18, kq18, q18a, q18b, q18c⟩ := isOf hZ ej10 Fj10_0
      obtain ⟨_, _, ⟨T18, L18, k18, n18⟩, -, X18, ⟨Lc18, hQ18, l18, y18, z18⟩, st18⟩ := Xj10.virtualBack hx (y := (⟨"com/example/clockwright/clockwright/mcmc/Acceptance", "rate", "()D"⟩ : MethodName)) (z := (⟨"com/example/clockwright/clockwright/mcmc/Acceptance", "rate", "()D"⟩ : MethodName)) hown (mvT hZ (hw _ (List.mem_of_getElem? (i := 10) rfl))) (mvT hZ (hw _ (List.mem_of_getElem? (i := 11) rfl))) (notFace_of_selects (args := #[]) (mvT hZ (hw _ (List.mem_of_getElem? (i := 13) rfl)))) (mvT hZ (hw _ (List.mem_of_getElem? (i := 13) rfl))) (mvT hZ (hw _ (List.mem_of_getElem? (i := 12) rfl))) (by decide) (backOf (W := 0) (rmR1 l Z a0 hw [] b2 (1 : Int64) (0 : Int64) hj10 n0 Zs19 Fj10_1 Fj10_2 (by decide) (by unfold Jvm.Free.Fl.NoNaN64; decide +kernel)) hZ (hw _ (List.mem_of_getElem? (i := 14) rfl)) (hw _ (List.mem_of_getElem? (i := 3) rfl)) (by decide) (by decide)) q18a q18c (g := (mkF m 148 #[iv p1, iv p2, iv (1 : Int32), rv b2, iv (0 : Int32), iv fz_1, .unset, .unset, .unset] [(.ref b2)])) rfl (by rw [hml]; rfl) (Steps.refl _) (argsL := []) (rest := []) (lenOf pd_1 rfl) rfl (by show 2 * 0 + _ ≤ _; exact Nat.le_of_eq rfl) (hb hby at_148) (fun _ _ => ⟨rfl, ej10, (by decide : 1 + 0 ≤ _), (by decide : 2 + 0 ≤ _)⟩)
      dsimp only [Pt.U, Pt.locs, Pt.cells, Pt.slots] at X18 l18 y18 z18 st18 hQ18
      subst l18 y18 z18
      obtain ⟨hv18, N18q, e18q⟩ := hQ18
      have N18 := Fr.app Nj10 N18q
      rw [show FP.ddiv (FP.l2d (0 : Int64)) (FP.l2d (1 : Int64)) = (0 : UInt64) from by decide +kernel] at hv18
      subst hv18
      have e18 : T18.heap = hj10 := e18q
      obtain ⟨cq20, kq20, q20a, q20b, q20c⟩ := isOf hZ e18 Fj10_0
      obtain ⟨_, _, ⟨T20, L20, k20, n20⟩, -, X20, ⟨Lc20, hQ20, l20, y20, z20⟩, st20⟩ := X18.virtualBack hx (y := (⟨"com/example/clockwright/clockwright/mcmc/Acceptance", "proposals", "()J"⟩ : MethodName)) (z := (⟨"com/example/clockwright/clockwright/mcmc/Acceptance", "proposals", "()J"⟩ : MethodName)) hown (mvT hZ (hw _ (List.mem_of_getElem? (i := 18) rfl))) (mvT hZ (hw _ (List.mem_of_getElem? (i := 19) rfl))) (notFace_of_selects (args := #[]) (mvT hZ (hw _ (List.mem_of_getElem? (i := 21) rfl)))) (mvT hZ (hw _ (List.mem_of_getElem? (i := 21) rfl))) (mvT hZ (hw _ (List.mem_of_getElem? (i := 20) rfl))) (by decide) (backOf (W := 0) (rm4 l Z a0 hw [] b2 (1 : Int64) hj10 n0 Zs19 Fj10_1) hZ (hw _ (List.mem_of_getElem? (i := 22) rfl)) (hw _ (List.mem_of_getElem? (i := 3) rfl)) (by decide) (by decide)) q20a q20c (g := (mkF m 154 #[iv p1, iv p2, iv (1 : Int32), rv b2, iv (0 : Int32), .val (.double (0 : UInt64)), .second, .unset, .unset] [(.ref b2)])) rfl (by rw [hml]; rfl) (Steps.refl _) (argsL := []) (rest := []) (lenOf pd_2 rfl) rfl (by show 2 * 0 + _ ≤ _; exact Nat.le_of_eq rfl) (hb hby at_154) (fun _ _ => ⟨rfl, e18, (by decide : 1 + 0 ≤ _), (by decide : 2 + 0 ≤ _)⟩)
      dsimp only [Pt.U, Pt.locs, Pt.cells, Pt.slots] at X20 l20 y20 z20 st20 hQ20
      subst l20 y20 z20
      obtain ⟨rfl, N20q, e20q⟩ := hQ20
      have N20 := Fr.app N18 N20q
      have e20 : T20.heap = hj10 := e20q
      obtain ⟨cq21, kq21, q21a, q21b, q21c⟩ := isOf hZ e20 Fj10_0
      obtain ⟨_, _, ⟨T21, L21, k21, n21⟩, -, X21, ⟨Lc21, hQ21, l21, y21, z21⟩, st21⟩ := X20.virtualBack hx (y := (⟨"com/example/clockwright/clockwright/mcmc/Acceptance", "accepted", "()J"⟩ : MethodName)) (z := (⟨"com/example/clockwright/clockwright/mcmc/Acceptance", "accepted", "()J"⟩ : MethodName)) hown (mvT hZ (hw _ (List.mem_of_getElem? (i := 23) rfl))) (mvT hZ (hw _ (List.mem_of_getElem? (i := 24) rfl))) (notFace_of_selects (args := #[]) (mvT hZ (hw _ (List.mem_of_getElem? (i := 26) rfl)))) (mvT hZ (hw _ (List.mem_of_getElem? (i := 26) rfl))) (mvT hZ (hw _ (List.mem_of_getElem? (i := 25) rfl))) (by decide) (backOf (W := 0) (rm5 l Z a0 hw [] b2 (0 : Int64) hj10 n0 Zs19 Fj10_2) hZ (hw _ (List.mem_of_getElem? (i := 27) rfl)) (hw _ (List.mem_of_getElem? (i := 3) rfl)) (by decide) (by decide)) q21a q21c (g := (mkF m 164 #[iv p1, iv p2, iv (1 : Int32), rv b2, iv (0 : Int32), .val (.double (0 : UInt64)), .second, .unset, .unset] [(.ref b2)])) rfl (by rw [hml]; rfl) (Steps.refl _) (argsL := []) (rest := []) (lenOf pd_2 rfl) rfl (by show 2 * 0 + _ ≤ _; exact Nat.le_of_eq rfl) (hb hby at_164) (fun _ _ => ⟨rfl, e20, (by decide : 1 + 0 ≤ _), (by decide : 2 + 0 ≤ _)⟩)
      dsimp only [Pt.U, Pt.locs, Pt.cells, Pt.slots] at X21 l21 y21 z21 st21 hQ21
      subst l21 y21 z21
      obtain ⟨rfl, N21q, e21q⟩ := hQ21
      have N21 := Fr.app N20 N21q
      have e21 : T21.heap = hj10 := e21q
      obtain ⟨_, _, ⟨T22, L22, k22, n22⟩, -, X22, ⟨Lc22, hQ22, l22, y22, z22⟩, st22⟩ := Jvm.LawKit.callS X21 hx (y := (⟨"com/example/clockwright/clockwright/mcmc/AcceptanceRatePinLaw", "expected", "(II)D"⟩ : MethodName)) hown (mvT hZ (hw _ (List.mem_of_getElem? (i := 35) rfl))) (mvT hZ (hw _ (List.mem_of_getElem? (i := 36) rfl))) (mvT hZ (hw _ (List.mem_of_getElem? (i := 37) rfl))) (mvT hZ (hw _ (List.mem_of_getElem? (i := 38) rfl))) (by decide) (backOf (W := 0) (rm7 l Z a0 hw [] (1 : Int32) (0 : Int32) hj10 n0 Zs19 ) hZ (hw _ (List.mem_of_getElem? (i := 38) rfl)) (hw _ (List.mem_of_getElem? (i := 37) rfl)) (by decide) (by decide)) (g := (mkF m 197 #[iv p1, iv p2, iv (1 : Int32), rv b2, iv (0 : Int32), .val (.double (0 : UInt64)), .second, .unset, .unset] [(.int (0 : Int32)), (.int (1 : Int32))])) rfl (by rw [hml]; rfl) (argsL := [(.int (1 : Int32)), (.int (0 : Int32))]) (rest := []) (lenOf pd_4 rfl) rfl (by show 2 * 0 + _ ≤ _; exact Nat.le_of_eq rfl) (hb hby at_197) (fun _ _ => ⟨rfl, e21, (by decide : 1 + 0 ≤ _), (by decide : 2 + 0 ≤ _)⟩)
      dsimp only [Pt.U, Pt.locs, Pt.cells, Pt.slots] at X22 l22 y22 z22 st22 hQ22
      subst l22 y22 z22
      obtain ⟨hv22, N22q, e22q⟩ := hQ22
      have N22 := Fr.app N21 N22q
      rw [show own_exp (1 : Int32) (0 : Int32) = (0 : UInt64) from by decide] at hv22
      subst hv22
      have e22 : T22.heap = hj10 := e22q
      have pre23 : ∀ tg, own_S p e below T22 m 229 #[iv p1, iv p2, iv (1 : Int32), rv b2, iv (0 : Int32), .val (.double (0 : UInt64)), .second, .val (.double (0 : UInt64)), .second] [(.int (1 : Int32))] tg → Steps p.tables e below (s₁.setTop (entryFrame m #[(.int p1), (.int p2)] maxLocals)) tg := fun tg k => pre17 tg (by
        show own_S p e below Tj10 m 147 #[iv p1, iv p2, iv (1 : Int32), rv b2, iv (0 : Int32), iv fz_1, .unset, .unset, .unset] [] _
        refine XS.aloadN Xj10.here hx rfl (hb hby at_147) rfl rfl ?_
        show own_S p e below Tj10 m 148 #[iv p1, iv p2, iv (1 : Int32), rv b2, iv (0 : Int32), iv fz_1, .unset, .unset, .unset] [(.ref b2)] _
        refine st18.trans ?_
        show own_S p e below T18 m 151 #[iv p1, iv p2, iv (1 : Int32), rv b2, iv (0 : Int32), iv fz_1, .unset, .unset, .unset] [(.double (0 : UInt64))] _
        refine XS.dstore X18.here hx rfl (hb hby at_151) rfl (l' := #[iv p1, iv p2, iv (1 : Int32), rv b2, iv (0 : Int32), .val (.double (0 : UInt64)), .second, .unset, .unset]) rfl ?_
        show own_S p e below T18 m 153 #[iv p1, iv p2, iv (1 : Int32), rv b2, iv (0 : Int32), .val (.double (0 : UInt64)), .second, .unset, .unset] [] _
        refine XS.aloadN X18.here hx rfl (hb hby at_153) rfl rfl ?_
        show own_S p e below T18 m 154 #[iv p1, iv p2, iv (1 : Int32), rv b2, iv (0 : Int32), .val (.double (0 : UInt64)), .second, .unset, .unset] [(.ref b2)] _
        refine st20.trans ?_
        show own_S p e below T20 m 157 #[iv p1, iv p2, iv (1 : Int32), rv b2, iv (0 : Int32), .val (.double (0 : UInt64)), .second, .unset, .unset] [(.long (1 : Int64))] _
        refine XS.iloadN X20.here hx rfl (hb hby at_157) rfl ?_
        show own_S p e below T20 m 158 #[iv p1, iv p2, iv (1 : Int32), rv b2, iv (0 : Int32), .val (.double (0 : UInt64)), .second, .unset, .unset] [(.int (1 : Int32)), (.long (1 : Int64))] _
        refine XS.i2l X20.here hx rfl (hb hby at_158) rfl ?_
        show own_S p e below T20 m 159 #[iv p1, iv p2, iv (1 : Int32), rv b2, iv (0 : Int32), .val (.double (0 : UInt64)), .second, .unset, .unset] [(.long ((1 : Int32).toInt64)), (.long (1 : Int64))] _
        refine XS.lcmp X20.here hx rfl (hb hby at_159) rfl ?_
        show own_S p e below T20 m 160 #[iv p1, iv p2, iv (1 : Int32), rv b2, iv (0 : Int32), .val (.double (0 : UInt64)), .second, .unset, .unset] [(.int (lcmpW (1 : Int64) ((1 : Int32).toInt64)))] _
        refine XS.ifNo X20.here hx rfl (hb hby at_160) rfl ((if0 _ _).trans (teq ((lw_eq _ _).mpr (by decide : (1 : Int64) = ((1 : Int32).toInt64)))).2) ?_
        show own_S p e below T20 m 163 #[iv p1, iv p2, iv (1 : Int32), rv b2, iv (0 : Int32), .val (.double (0 : UInt64)), .second, .unset, .unset] [] _
        refine XS.aloadN X20.here hx rfl (hb hby at_163) rfl rfl ?_
        show own_S p e below T20 m 164 #[iv p1, iv p2, iv (1 : Int32), rv b2, iv (0 : Int32), .val (.double (0 : UInt64)), .second, .unset, .unset] [(.ref b2)] _
        refine st21.trans ?_
        show own_S p e below T21 m 167 #[iv p1, iv p2, iv (1 : Int32), rv b2, iv (0 : Int32), .val (.double (0 : UInt64)), .second, .unset, .unset] [(.long (0 : Int64))] _
        refine XS.iload X21.here hx rfl (hb hby at_167) rfl ?_
        show own_S p e below T21 m 169 #[iv p1, iv p2, iv (1 : Int32), rv b2, iv (0 : Int32), .val (.double (0 : UInt64)), .second, .unset, .unset] [(.int (0 : Int32)), (.long (0 : Int64))] _
        refine XS.i2l X21.here hx rfl (hb hby at_169) rfl ?_
        show own_S p e below T21 m 170 #[iv p1, iv p2, iv (1 : Int32), rv b2, iv (0 : Int32), .val (.double (0 : UInt64)), .second, .unset, .unset] [(.long ((0 : Int32).toInt64)), (.long (0 : Int64))] _
        refine XS.lcmp X21.here hx rfl (hb hby at_170) rfl ?_
        show own_S p e below T21 m 171 #[iv p1, iv p2, iv (1 : Int32), rv b2, iv (0 : Int32), .val (.double (0 : UInt64)), .second, .unset, .unset] [(.int (lcmpW (0 : Int64) ((0 : Int32).toInt64)))] _
        refine XS.ifYes X21.here hx rfl (pc0 := 171) (pc' := 176) rfl (hb hby at_171) rfl ((if0 _ _).trans (teq ((lw_eq _ _).mpr (by decide : (0 : Int64) = ((0 : Int32).toInt64)))).1) (by decide) (by decide) ?_
        show own_S p e below T21 m 176 #[iv p1, iv p2, iv (1 : Int32), rv b2, iv (0 : Int32), .val (.double (0 : UInt64)), .second, .unset, .unset] [] _
        refine XS.iloadN X21.here hx rfl (hb hby at_176) rfl ?_
        show own_S p e below T21 m 177 #[iv p1, iv p2, iv (1 : Int32), rv b2, iv (0 : Int32), .val (.double (0 : UInt64)), .second, .unset, .unset] [(.int (1 : Int32))] _
        refine XS.ifYes X21.here hx rfl (pc0 := 177) (pc' := 194) rfl (hb hby at_177) rfl ((if0 _ _).trans (feq (by decide : ¬ ((1 : Int32) = (0 : Int32)))).2) (by decide) (by decide) ?_
        show own_S p e below T21 m 194 #[iv p1, iv p2, iv (1 : Int32), rv b2, iv (0 : Int32), .val (.double (0 : UInt64)), .second, .unset, .unset] [] _
        refine XS.iloadN X21.here hx rfl (hb hby at_194) rfl ?_
        show own_S p e below T21 m 195 #[iv p1, iv p2, iv (1 : Int32), rv b2, iv (0 : Int32), .val (.double (0 : UInt64)), .second, .unset, .unset] [(.int (1 : Int32))] _
        refine XS.iload X21.here hx rfl (hb hby at_195) rfl ?_
        show own_S p e below T21 m 197 #[iv p1, iv p2, iv (1 : Int32), rv b2, iv (0 : Int32), .val (.double (0 : UInt64)), .second, .unset, .unset] [(.int (0 : Int32)), (.int (1 : Int32))] _
        refine st22 _ ?_
        show own_S p e below T22 m 200 #[iv p1, iv p2, iv (1 : Int32), rv b2, iv (0 : Int32), .val (.double (0 : UInt64)), .second, .unset, .unset] [(.double (0 : UInt64))] _
        refine XS.dstore X22.here hx rfl (hb hby at_200) rfl (l' := #[iv p1, iv p2, iv (1 : Int32), rv b2, iv (0 : Int32), .val (.double (0 : UInt64)), .second, .val (.double (0 : UInt64)), .second]) rfl ?_
        show own_S p e below T22 m 202 #[iv p1, iv p2, iv (1 : Int32), rv b2, iv (0 : Int32), .val (.double (0 : UInt64)), .second, .val (.double (0 : UInt64)), .second] [] _
        refine XS.dload X22.here hx rfl (hb hby at_202) rfl ?_
        show own_S p e below T22 m 204 #[iv p1, iv p2, iv (1 : Int32), rv b2, iv (0 : Int32), .val (.double (0 : UInt64)), .second, .val (.double (0 : UInt64)), .second] [(.double (0 : UInt64))] _
        refine XS.dload X22.here hx rfl (hb hby at_204) rfl ?_
        show own_S p e below T22 m 206 #[iv p1, iv p2, iv (1 : Int32), rv b2, iv (0 : Int32), .val (.double (0 : UInt64)), .second, .val (.double (0 : UInt64)), .second] [(.double (0 : UInt64)), (.double (0 : UInt64))] _
        refine XS.dcmpS X22.here hx rfl (hb hby at_206) rfl (v := (0 : Int32)) (by decide +kernel) ?_
        show own_S p e below T22 m 207 #[iv p1, iv p2, iv (1 : Int32), rv b2, iv (0 : Int32), .val (.double (0 : UInt64)), .second, .val (.double (0 : UInt64)), .second] [(.int (0 : Int32))] _
        refine XS.ifNo X22.here hx rfl (hb hby at_207) rfl ((if0 _ _).trans (teq (by decide : (0 : Int32) = (0 : Int32))).2) ?_
        show own_S p e below T22 m 210 #[iv p1, iv p2, iv (1 : Int32), rv b2, iv (0 : Int32), .val (.double (0 : UInt64)), .second, .val (.double (0 : UInt64)), .second] [] _
        refine XS.dconst0 X22.here hx rfl (hb hby at_210) (v := (0 : UInt64)) rfl ?_
        show own_S p e below T22 m 211 #[iv p1, iv p2, iv (1 : Int32), rv b2, iv (0 : Int32), .val (.double (0 : UInt64)), .second, .val (.double (0 : UInt64)), .second] [(.double (0 : UInt64))] _
        refine XS.dload X22.here hx rfl (hb hby at_211) rfl ?_
        show own_S p e below T22 m 213 #[iv p1, iv p2, iv (1 : Int32), rv b2, iv (0 : Int32), .val (.double (0 : UInt64)), .second, .val (.double (0 : UInt64)), .second] [(.double (0 : UInt64)), (.double (0 : UInt64))] _
        refine XS.dcmpS X22.here hx rfl (hb hby at_213) rfl (v := (0 : Int32)) (by decide +kernel) ?_
        show own_S p e below T22 m 214 #[iv p1, iv p2, iv (1 : Int32), rv b2, iv (0 : Int32), .val (.double (0 : UInt64)), .second, .val (.double (0 : UInt64)), .second] [(.int (0 : Int32))] _
        refine XS.ifNo X22.here hx rfl (hb hby at_214) rfl ((if0 _ _).trans (flt (by decide : ¬ ((0 : Int32) < (0 : Int32)))).2.2.1) ?_
        show own_S p e below T22 m 217 #[iv p1, iv p2, iv (1 : Int32), rv b2, iv (0 : Int32), .val (.double (0 : UInt64)), .second, .val (.double (0 : UInt64)), .second] [] _
        refine XS.dload X22.here hx rfl (hb hby at_217) rfl ?_
        show own_S p e below T22 m 219 #[iv p1, iv p2, iv (1 : Int32), rv b2, iv (0 : Int32), .val (.double (0 : UInt64)), .second, .val (.double (0 : UInt64)), .second] [(.double (0 : UInt64))] _
        refine XS.dconst1 X22.here hx rfl (hb hby at_219) (v := (4607182418800017408 : UInt64)) rfl ?_
        show own_S p e below T22 m 220 #[iv p1, iv p2, iv (1 : Int32), rv b2, iv (0 : Int32), .val (.double (0 : UInt64)), .second, .val (.double (0 : UInt64)), .second] [(.double (4607182418800017408 : UInt64)), (.double (0 : UInt64))] _
        refine XS.dcmpS X22.here hx rfl (hb hby at_220) rfl (v := (-1 : Int32)) (by decide +kernel) ?_
        show own_S p e below T22 m 221 #[iv p1, iv p2, iv (1 : Int32), rv b2, iv (0 : Int32), .val (.double (0 : UInt64)), .second, .val (.double (0 : UInt64)), .second] [(.int (-1 : Int32))] _
        refine XS.ifNo X22.here hx rfl (hb hby at_221) rfl ((if0 _ _).trans (flt (by decide : ¬ ((0 : Int32) < (-1 : Int32)))).2.2.1) ?_
        show own_S p e below T22 m 224 #[iv p1, iv p2, iv (1 : Int32), rv b2, iv (0 : Int32), .val (.double (0 : UInt64)), .second, .val (.double (0 : UInt64)), .second] [] _
        refine XS.iconst X22.here hx rfl (hb hby at_224) ?_
        show own_S p e below T22 m 225 #[iv p1, iv p2, iv (1 : Int32), rv b2, iv (0 : Int32), .val (.double (0 : UInt64)), .second, .val (.double (0 : UInt64)), .second] [(.int (1 : Int32))] _
        refine XS.goto X22.here hx rfl (pc0 := 225) (pc' := 229) rfl (hb hby at_225) (by decide) (by decide) ?_
        exact k)
      obtain ⟨fs, hr, hrun, hended, hW, hsame⟩ := X22.leave (v := some (.int (nar .boolean (1 : Int32)))) (fun h => by rw [Bd.returns] at h; cases h)
      refine ⟨_, _, pre23 _ ?_, hrun, hended, _, _, rfl, ?_, ⟨_, rfl⟩, hW, hsame.mono (by decide) (by decide)⟩
      · show own_S p e below T22 m 229 #[iv p1, iv p2, iv (1 : Int32), rv b2, iv (0 : Int32), .val (.double (0 : UInt64)), .second, .val (.double (0 : UInt64)), .second] [(.int (1 : Int32))] _
        exact retN X22 hx (t := .boolean) Bd.returns (by simp) (hb hby at_229) hr
      · show Q0 Z p1 p2 h0 n0 _ T22.heap _
        rw [e22]
        exact ⟨rfl, N22⟩
    ·  -- case
      have Zs25 : n0 ≤ hj10.size := (Nat.le_trans Zs4 Kj10.1)
      obtain ⟨cq24, kq24, q24a, q24b, q24c⟩ := isOf hZ ej10 Fj10_0
      obtain ⟨_, _, ⟨T24, L24, k24, n24⟩, -, X24, ⟨Lc24, hQ24, l24, y24, z24⟩, st24⟩ := Xj10.virtualBack hx (y := (⟨"com/example/clockwright/clockwright/mcmc/Acceptance", "rate", "()D"⟩ : MethodName)) (z := (⟨"com/example/clockwright/clockwright/mcmc/Acceptance", "rate", "()D"⟩ : MethodName)) hown (mvT hZ (hw _ (List.mem_of_getElem? (i := 10) rfl))) (mvT hZ (hw _ (List.mem_of_getElem? (i := 11) rfl))) (notFace_of_selects (args := #[]) (mvT hZ (hw _ (List.mem_of_getElem? (i := 13) rfl)))) (mvT hZ (hw _ (List.mem_of_getElem? (i := 13) rfl))) (mvT hZ (hw _ (List.mem_of_getElem? (i := 12) rfl))) (by decide) (backOf (W := 0) (rmR1 l Z a0 hw [] b2 (1 : Int64) (1 : Int64) hj10 n0 Zs25 Fj10_1 Fj10_2 (by decide) (by unfold Jvm.Free.Fl.NoNaN64; decide +kernel)) hZ (hw _ (List.mem_of_getElem? (i := 14) rfl)) (hw _ (List.mem_of_getElem? (i := 3) rfl)) (by decide) (by decide)) q24a q24c (g := (mkF m 148 #[iv p1, iv p2, iv (1 : Int32), rv b2, iv (1 : Int32), iv fz_1, .unset, .unset, .unset] [(.ref b2)])) rfl (by rw [hml]; rfl) (Steps.refl _) (argsL := []) (rest := []) (lenOf pd_1 rfl) rfl (by show 2 * 0 + _ ≤ _; exact Nat.le_of_eq rfl) (hb hby at_148) (fun _ _ => ⟨rfl, ej10, (by decide : 1 + 0 ≤ _), (by decide : 2 + 0 ≤ _)⟩)
      dsimp only [Pt.U, Pt.locs, Pt.cells, Pt.slots] at X24 l24 y24 z24 st24 hQ24
      subst l24 y24 z24
      obtain ⟨hv24, N24q, e24q⟩ := hQ24
      have N24 := Fr.app Nj10 N24q
      rw [show FP.ddiv (FP.l2d (1 : Int64)) (FP.l2d (1 : Int64)) = (4607182418800017408 : UInt64) from by decide +kernel] at hv24
      subst hv24
      have e24 : T24.heap = hj10 := e24q
      obtain ⟨cq26, kq26, q26a, q26b, q26c⟩ := isOf hZ e24 Fj10_0
      obtain ⟨_, _, ⟨T26, L26, k26, n26⟩, -, X26, ⟨Lc26, hQ26, l26, y26, z26⟩, st26⟩ := X24.virtualBack hx (y := (⟨"com/example/clockwright/clockwright/mcmc/Acceptance", "proposals", "()J"⟩ : MethodName)) (z := (⟨"com/example/clockwright/clockwright/mcmc/Acceptance", "proposals", "()J"⟩ : MethodName)) hown (mvT hZ (hw _ (List.mem_of_getElem? (i := 18) rfl))) (mvT hZ (hw _ (List.mem_of_getElem? (i := 19) rfl))) (notFace_of_selects (args := #[]) (mvT hZ (hw _ (List.mem_of_getElem? (i := 21) rfl)))) (mvT hZ (hw _ (List.mem_of_getElem? (i := 21) rfl))) (mvT hZ (hw _ (List.mem_of_getElem? (i := 20) rfl))) (by decide) (backOf (W := 0) (rm4 l Z a0 hw [] b2 (1 : Int64) hj10 n0 Zs25 Fj10_1) hZ (hw _ (List.mem_of_getElem? (i := 22) rfl)) (hw _ (List.mem_of_getElem? (i := 3) rfl)) (by decide) (by decide)) q26a q26c (g := (mkF m 154 #[iv p1, iv p2, iv (1 : Int32), rv b2, iv (1 : Int32), .val (.double (4607182418800017408 : UInt64)), .second, .unset, .unset] [(.ref b2)])) rfl (by rw [hml]; rfl) (Steps.refl _) (argsL := []) (rest := []) (lenOf pd_2 rfl) rfl (by show 2 * 0 + _ ≤ _; exact Nat.le_of_eq rfl) (hb hby at_154) (fun _ _ => ⟨rfl, e24, (by decide : 1 + 0 ≤ _), (by decide : 2 + 0 ≤ _)⟩)
      dsimp only [Pt.U, Pt.locs, Pt.cells, Pt.slots] at X26 l26 y26 z26 st26 hQ26
      subst l26 y26 z26
      obtain ⟨rfl, N26q, e26q⟩ := hQ26
      have N26 := Fr.app N24 N26q
      have e26 : T26.heap = hj10 := e26q
      obtain ⟨cq27, kq27, q27a, q27b, q27c⟩ := isOf hZ e26 Fj10_0
      obtain ⟨_, _, ⟨T27, L27, k27, n27⟩, -, X27, ⟨Lc27, hQ27, l27, y27, z27⟩, st27⟩ := X26.virtualBack hx (y := (⟨"com/example/clockwright/clockwright/mcmc/Acceptance", "accepted", "()J"⟩ : MethodName)) (z := (⟨"com/example/clockwright/clockwright/mcmc/Acceptance", "accepted", "()J"⟩ : MethodName)) hown (mvT hZ (hw _ (List.mem_of_getElem? (i := 23) rfl))) (mvT hZ (hw _ (List.mem_of_getElem? (i := 24) rfl))) (notFace_of_selects (args := #[]) (mvT hZ (hw _ (List.mem_of_getElem? (i := 26) rfl)))) (mvT hZ (hw _ (List.mem_of_getElem? (i := 26) rfl))) (mvT hZ (hw _ (List.mem_of_getElem? (i := 25) rfl))) (by decide) (backOf (W := 0) (rm5 l Z a0 hw [] b2 (1 : Int64) hj10 n0 Zs25 Fj10_2) hZ (hw _ (List.mem_of_getElem? (i := 27) rfl)) (hw _ (List.mem_of_getElem? (i := 3) rfl)) (by decide) (by decide)) q27a q27c (g := (mkF m 164 #[iv p1, iv p2, iv (1 : Int32), rv b2, iv (1 : Int32), .val (.double (4607182418800017408 : UInt64)), .second, .unset, .unset] [(.ref b2)])) rfl (by rw [hml]; rfl) (Steps.refl _) (argsL := []) (rest := []) (lenOf pd_2 rfl) rfl (by show 2 * 0 + _ ≤ _; exact Nat.le_of_eq rfl) (hb hby at_164) (fun _ _ => ⟨rfl, e26, (by decide : 1 + 0 ≤ _), (by decide : 2 + 0 ≤ _)⟩)
      dsimp only [Pt.U, Pt.locs, Pt.cells, Pt.slots] at X27 l27 y27 z27 st27 hQ27
      subst l27 y27 z27
      obtain ⟨rfl, N27q, e27q⟩ := hQ27
      have N27 := Fr.app N26 N27q
      have e27 : T27.heap = hj10 := e27q
      obtain ⟨_, _, ⟨T28, L28, k28, n28⟩, -, X28, ⟨Lc28, hQ28, l28, y28, z28⟩, st28⟩ := Jvm.LawKit.callS X27 hx (y := (⟨"com/example/clockwright/clockwright/mcmc/AcceptanceRatePinLaw", "expected", "(II)D"⟩ : MethodName)) hown (mvT hZ (hw _ (List.mem_of_getElem? (i := 35) rfl))) (mvT hZ (hw _ (List.mem_of_getElem? (i := 36) rfl))) (mvT hZ (hw _ (List.mem_of_getElem? (i := 37) rfl))) (mvT hZ (hw _ (List.mem_of_getElem? (i := 38) rfl))) (by decide) (backOf (W := 0) (rm7 l Z a0 hw [] (1 : Int32) (1 : Int32) hj10 n0 Zs25 ) hZ (hw _ (List.mem_of_getElem? (i := 38) rfl)) (hw _ (List.mem_of_getElem? (i := 37) rfl)) (by decide) (by decide)) (g := (mkF m 197 #[iv p1, iv p2, iv (1 : Int32), rv b2, iv (1 : Int32), .val (.double (4607182418800017408 : UInt64)), .second, .unset, .unset] [(.int (1 : Int32)), (.int (1 : Int32))])) rfl (by rw [hml]; rfl) (argsL := [(.int (1 : Int32)), (.int (1 : Int32))]) (rest := []) (lenOf pd_4 rfl) rfl (by show 2 * 0 + _ ≤ _; exact Nat.le_of_eq rfl) (hb hby at_197) (fun _ _ => ⟨rfl, e27, (by decide : 1 + 0 ≤ _), (by decide : 2 + 0 ≤ _)⟩)
      dsimp only [Pt.U, Pt.locs, Pt.cells, Pt.slots] at X28 l28 y28 z28 st28 hQ28
      subst l28 y28 z28
      obtain ⟨hv28, N28q, e28q⟩ := hQ28
      have N28 := Fr.app N27 N28q
      rw [show own_exp (1 : Int32) (1 : Int32) = (4607182418800017408 : UInt64) from by decide] at hv28
      subst hv28
      have e28 : T28.heap = hj10 := e28q
      have pre29 : ∀ tg, own_S p e below T28 m 229 #[iv p1, iv p2, iv (1 : Int32), rv b2, iv (1 : Int32), .val (.double (4607182418800017408 : UInt64)), .second, .val (.double (4607182418800017408 : UInt64)), .second] [(.int (1 : Int32))] tg → Steps p.tables e below (s₁.setTop (entryFrame m #[(.int p1), (.int p2)] maxLocals)) tg := fun tg k => pre17 tg (by
        show own_S p e below Tj10 m 147 #[iv p1, iv p2, iv (1 : Int32), rv b2, iv (1 : Int32), iv fz_1, .unset, .unset, .unset] [] _
        refine XS.aloadN Xj10.here hx rfl (hb hby at_147) rfl rfl ?_
        show own_S p e below Tj10 m 148 #[iv p1, iv p2, iv (1 : Int32), rv b2, iv (1 : Int32), iv fz_1, .unset, .unset, .unset] [(.ref b2)] _
        refine st24.trans ?_
        show own_S p e below T24 m 151 #[iv p1, iv p2, iv (1 : Int32), rv b2, iv (1 : Int32), iv fz_1, .unset, .unset, .unset] [(.double (4607182418800017408 : UInt64))] _
        refine XS.dstore X24.here hx rfl (hb hby at_151) rfl (l' := #[iv p1, iv p2, iv (1 : Int32), rv b2, iv (1 : Int32), .val (.double (4607182418800017408 : UInt64)), .second, .unset, .unset]) rfl ?_
        show own_S p e below T24 m 153 #[iv p1, iv p2, iv (1 : Int32), rv b2, iv (1 : Int32), .val (.double (4607182418800017408 : UInt64)), .second, .unset, .unset] [] _
        refine XS.aloadN X24.here hx rfl (hb hby at_153) rfl rfl ?_
        show own_S p e below T24 m 154 #[iv p1, iv p2, iv (1 : Int32), rv b2, iv (1 : Int32), .val (.double (4607182418800017408 : UInt64)), .second, .unset, .unset] [(.ref b2)] _
        refine st26.trans ?_
        show own_S p e below T26 m 157 #[iv p1, iv p2, iv (1 : Int32), rv b2, iv (1 : Int32), .val (.double (4607182418800017408 : UInt64)), .second, .unset, .unset] [(.long (1 : Int64))] _
        refine XS.iloadN X26.here hx rfl (hb hby at_157) rfl ?_
        show own_S p e below T26 m 158 #[iv p1, iv p2, iv (1 : Int32), rv b2, iv (1 : Int32), .val (.double (4607182418800017408 : UInt64)), .second, .unset, .unset] [(.int (1 : Int32)), (.long (1 : Int64))] _
        refine XS.i2l X26.here hx rfl (hb hby at_158) rfl ?_
        show own_S p e below T26 m 159 #[iv p1, iv p2, iv (1 : Int32), rv b2, iv (1 : Int32), .val (.double (4607182418800017408 : UInt64)), .second, .unset, .unset] [(.long ((1 : Int32).toInt64)), (.long (1 : Int64))] _
        refine XS.lcmp X26.here hx rfl (hb hby at_159) rfl ?_
        show own_S p e below T26 m 160 #[iv p1, iv p2, iv (1 : Int32), rv b2, iv (1 : Int32), .val (.double (4607182418800017408 : UInt64)), .second, .unset, .unset] [(.int (lcmpW (1 : Int64) ((1 : Int32).toInt64)))] _
        refine XS.ifNo X26.here hx rfl (hb hby at_160) rfl ((if0 _ _).trans (teq ((lw_eq _ _).mpr (by decide : (1 : Int64) = ((1 : Int32).toInt64)))).2) ?_
        show own_S p e below T26 m 163 #[iv p1, iv p2, iv (1 : Int32), rv b2, iv (1 : Int32), .val (.double (4607182418800017408 : UInt64)), .second, .unset, .unset] [] _
        refine XS.aloadN X26.here hx rfl (hb hby at_163) rfl rfl ?_
        show own_S p e below T26 m 164 #[iv p1, iv p2, iv (1 : Int32), rv b2, iv (1 : Int32), .val (.double (4607182418800017408 : UInt64)), .second, .unset, .unset] [(.ref b2)] _
        refine st27.trans ?_
        show own_S p e below T27 m 167 #[iv p1, iv p2, iv (1 : Int32), rv b2, iv (1 : Int32), .val (.double (4607182418800017408 : UInt64)), .second, .unset, .unset] [(.long (1 : Int64))] _
        refine XS.iload X27.here hx rfl (hb hby at_167) rfl ?_
        show own_S p e below T27 m 169 #[iv p1, iv p2, iv (1 : Int32), rv b2, iv (1 : Int32), .val (.double (4607182418800017408 : UInt64)), .second, .unset, .unset] [(.int (1 : Int32)), (.long (1 : Int64))] _
        refine XS.i2l X27.here hx rfl (hb hby at_169) rfl ?_
        show own_S p e below T27 m 170 #[iv p1, iv p2, iv (1 : Int32), rv b2, iv (1 : Int32), .val (.double (4607182418800017408 : UInt64)), .second, .unset, .unset] [(.long ((1 : Int32).toInt64)), (.long (1 : Int64))] _
        refine XS.lcmp X27.here hx rfl (hb hby at_170) rfl ?_
        show own_S p e below T27 m 171 #[iv p1, iv p2, iv (1 : Int32), rv b2, iv (1 : Int32), .val (.double (4607182418800017408 : UInt64)), .second, .unset, .unset] [(.int (lcmpW (1 : Int64) ((1 : Int32).toInt64)))] _
        refine XS.ifYes X27.here hx rfl (pc0 := 171) (pc' := 176) rfl (hb hby at_171) rfl ((if0 _ _).trans (teq ((lw_eq _ _).mpr (by decide : (1 : Int64) = ((1 : Int32).toInt64)))).1) (by decide) (by decide) ?_
        show own_S p e below T27 m 176 #[iv p1, iv p2, iv (1 : Int32), rv b2, iv (1 : Int32), .val (.double (4607182418800017408 : UInt64)), .second, .unset, .unset] [] _
        refine XS.iloadN X27.here hx rfl (hb hby at_176) rfl ?_
        show own_S p e below T27 m 177 #[iv p1, iv p2, iv (1 : Int32), rv b2, iv (1 : Int32), .val (.double (4607182418800017408 : UInt64)), .second, .unset, .unset] [(.int (1 : Int32))] _
        refine XS.ifYes X27.here hx rfl (pc0 := 177) (pc' := 194) rfl (hb hby at_177) rfl ((if0 _ _).trans (feq (by decide : ¬ ((1 : Int32) = (0 : Int32)))).2) (by decide) (by decide) ?_
        show own_S p e below T27 m 194 #[iv p1, iv p2, iv (1 : Int32), rv b2, iv (1 : Int32), .val (.double (4607182418800017408 : UInt64)), .second, .unset, .unset] [] _
        refine XS.iloadN X27.here hx rfl (hb hby at_194) rfl ?_
        show own_S p e below T27 m 195 #[iv p1, iv p2, iv (1 : Int32), rv b2, iv (1 : Int32), .val (.double (4607182418800017408 : UInt64)), .second, .unset, .unset] [(.int (1 : Int32))] _
        refine XS.iload X27.here hx rfl (hb hby at_195) rfl ?_
        show own_S p e below T27 m 197 #[iv p1, iv p2, iv (1 : Int32), rv b2, iv (1 : Int32), .val (.double (4607182418800017408 : UInt64)), .second, .unset, .unset] [(.int (1 : Int32)), (.int (1 : Int32))] _
        refine st28 _ ?_
        show own_S p e below T28 m 200 #[iv p1, iv p2, iv (1 : Int32), rv b2, iv (1 : Int32), .val (.double (4607182418800017408 : UInt64)), .second, .unset, .unset] [(.double (4607182418800017408 : UInt64))] _
        refine XS.dstore X28.here hx rfl (hb hby at_200) rfl (l' := #[iv p1, iv p2, iv (1 : Int32), rv b2, iv (1 : Int32), .val (.double (4607182418800017408 : UInt64)), .second, .val (.double (4607182418800017408 : UInt64)), .second]) rfl ?_
        show own_S p e below T28 m 202 #[iv p1, iv p2, iv (1 : Int32), rv b2, iv (1 : Int32), .val (.double (4607182418800017408 : UInt64)), .second, .val (.double (4607182418800017408 : UInt64)), .second] [] _
        refine XS.dload X28.here hx rfl (hb hby at_202) rfl ?_
        show own_S p e below T28 m 204 #[iv p1, iv p2, iv (1 : Int32), rv b2, iv (1 : Int32), .val (.double (4607182418800017408 : UInt64)), .second, .val (.double (4607182418800017408 : UInt64)), .second] [(.double (4607182418800017408 : UInt64))] _
        refine XS.dload X28.here hx rfl (hb hby at_204) rfl ?_
        show own_S p e below T28 m 206 #[iv p1, iv p2, iv (1 : Int32), rv b2, iv (1 : Int32), .val (.double (4607182418800017408 : UInt64)), .second, .val (.double (4607182418800017408 : UInt64)), .second] [(.double (4607182418800017408 : UInt64)), (.double (4607182418800017408 : UInt64))] _
        refine XS.dcmpS X28.here hx rfl (hb hby at_206) rfl (v := (0 : Int32)) (by decide +kernel) ?_
        show own_S p e below T28 m 207 #[iv p1, iv p2, iv (1 : Int32), rv b2, iv (1 : Int32), .val (.double (4607182418800017408 : UInt64)), .second, .val (.double (4607182418800017408 : UInt64)), .second] [(.int (0 : Int32))] _
        refine XS.ifNo X28.here hx rfl (hb hby at_207) rfl ((if0 _ _).trans (teq (by decide : (0 : Int32) = (0 : Int32))).2) ?_
        show own_S p e below T28 m 210 #[iv p1, iv p2, iv (1 : Int32), rv b2, iv (1 : Int32), .val (.double (4607182418800017408 : UInt64)), .second, .val (.double (4607182418800017408 : UInt64)), .second] [] _
        refine XS.dconst0 X28.here hx rfl (hb hby at_210) (v := (0 : UInt64)) rfl ?_
        show own_S p e below T28 m 211 #[iv p1, iv p2, iv (1 : Int32), rv b2, iv (1 : Int32), .val (.double (4607182418800017408 : UInt64)), .second, .val (.double (4607182418800017408 : UInt64)), .second] [(.double (0 : UInt64))] _
        refine XS.dload X28.here hx rfl (hb hby at_211) rfl ?_
        show own_S p e below T28 m 213 #[iv p1, iv p2, iv (1 : Int32), rv b2, iv (1 : Int32), .val (.double (4607182418800017408 : UInt64)), .second, .val (.double (4607182418800017408 : UInt64)), .second] [(.double (4607182418800017408 : UInt64)), (.double (0 : UInt64))] _
        refine XS.dcmpS X28.here hx rfl (hb hby at_213) rfl (v := (-1 : Int32)) (by decide +kernel) ?_
        show own_S p e below T28 m 214 #[iv p1, iv p2, iv (1 : Int32), rv b2, iv (1 : Int32), .val (.double (4607182418800017408 : UInt64)), .second, .val (.double (4607182418800017408 : UInt64)), .second] [(.int (-1 : Int32))] _
        refine XS.ifNo X28.here hx rfl (hb hby at_214) rfl ((if0 _ _).trans (flt (by decide : ¬ ((0 : Int32) < (-1 : Int32)))).2.2.1) ?_
        show own_S p e below T28 m 217 #[iv p1, iv p2, iv (1 : Int32), rv b2, iv (1 : Int32), .val (.double (4607182418800017408 : UInt64)), .second, .val (.double (4607182418800017408 : UInt64)), .second] [] _
        refine XS.dload X28.here hx rfl (hb hby at_217) rfl ?_
        show own_S p e below T28 m 219 #[iv p1, iv p2, iv (1 : Int32), rv b2, iv (1 : Int32), .val (.double (4607182418800017408 : UInt64)), .second, .val (.double (4607182418800017408 : UInt64)), .second] [(.double (4607182418800017408 : UInt64))] _
        refine XS.dconst1 X28.here hx rfl (hb hby at_219) (v := (4607182418800017408 : UInt64)) rfl ?_
        show own_S p e below T28 m 220 #[iv p1, iv p2, iv (1 : Int32), rv b2, iv (1 : Int32), .val (.double (4607182418800017408 : UInt64)), .second, .val (.double (4607182418800017408 : UInt64)), .second] [(.double (4607182418800017408 : UInt64)), (.double (4607182418800017408 : UInt64))] _
        refine XS.dcmpS X28.here hx rfl (hb hby at_220) rfl (v := (0 : Int32)) (by decide +kernel) ?_
        show own_S p e below T28 m 221 #[iv p1, iv p2, iv (1 : Int32), rv b2, iv (1 : Int32), .val (.double (4607182418800017408 : UInt64)), .second, .val (.double (4607182418800017408 : UInt64)), .second] [(.int (0 : Int32))] _
        refine XS.ifNo X28.here hx rfl (hb hby at_221) rfl ((if0 _ _).trans (flt (by decide : ¬ ((0 : Int32) < (0 : Int32)))).2.2.1) ?_
        show own_S p e below T28 m 224 #[iv p1, iv p2, iv (1 : Int32), rv b2, iv (1 : Int32), .val (.double (4607182418800017408 : UInt64)), .second, .val (.double (4607182418800017408 : UInt64)), .second] [] _
        refine XS.iconst X28.here hx rfl (hb hby at_224) ?_
        show own_S p e below T28 m 225 #[iv p1, iv p2, iv (1 : Int32), rv b2, iv (1 : Int32), .val (.double (4607182418800017408 : UInt64)), .second, .val (.double (4607182418800017408 : UInt64)), .second] [(.int (1 : Int32))] _
        refine XS.goto X28.here hx rfl (pc0 := 225) (pc' := 229) rfl (hb hby at_225) (by decide) (by decide) ?_
        exact k)
      obtain ⟨fs, hr, hrun, hended, hW, hsame⟩ := X28.leave (v := some (.int (nar .boolean (1 : Int32)))) (fun h => by rw [Bd.returns] at h; cases h)
      refine ⟨_, _, pre29 _ ?_, hrun, hended, _, _, rfl, ?_, ⟨_, rfl⟩, hW, hsame.mono (by decide) (by decide)⟩
      · show own_S p e below T28 m 229 #[iv p1, iv p2, iv (1 : Int32), rv b2, iv (1 : Int32), .val (.double (4607182418800017408 : UInt64)), .second, .val (.double (4607182418800017408 : UInt64)), .second] [(.int (1 : Int32))] _
        exact retN X28 hx (t := .boolean) Bd.returns (by simp) (hb hby at_229) hr
      · show Q0 Z p1 p2 h0 n0 _ T28.heap _
        rw [e28]
        exact ⟨rfl, N28⟩
  ·  -- case
    obtain ⟨Tj30, hj30, Lj30, Xj30, ej30, Nj30, Kj30, a_1, A_1, fz_1, h_a_1, Fj30_0, Fj30_1, Fj30_2, prej30⟩ : ∃ (Tj : State) (hj : Heap) (Lj : List Loc), Stand p l e room_1 s m #[(.int p1), (.int p2)] below meth c Tj Lj 1 2 ∧ Tj.heap = hj ∧ Fr n0 Lj ∧ Keep h2 hj [b2] ∧ ∃ a_1 : Int32, ∃ A_1 : Int64, ∃ fz_1 : Int32, ((a_1 = 0 ∧ A_1 = 0) ∨ (a_1 = 1 ∧ A_1 = 1)) ∧ (Exa Z hj b2 "com/example/clockwright/clockwright/mcmc/Acceptance") ∧ (Fld Z hj b2 "com/example/clockwright/clockwright/mcmc/Acceptance" "proposals" "J" (.long (1 : Int64))) ∧ (Fld Z hj b2 "com/example/clockwright/clockwright/mcmc/Acceptance" "accepted" "J" (.long A_1)) ∧ ∀ tg, own_S p e below Tj m 50 #[iv p1, iv p2, iv (2 : Int32), rv b2, iv a_1, iv fz_1, .unset, .unset, .unset] [] tg → Steps p.tables e below (s₁.setTop (entryFrame m #[(.int p1), (.int p2)] maxLocals)) tg := by
      have pre32 : ∀ tg, own_S p e below T3 m 26 #[iv p1, iv p2, iv (2 : Int32), rv b2, iv (0 : Int32), .unset, .unset, .unset, .unset] [(.int (p2 &&& (1 : Int32)))] tg → Steps p.tables e below (s₁.setTop (entryFrame m #[(.int p1), (.int p2)] maxLocals)) tg := fun tg k => pre5 tg (by
        show own_S p e below T3 m 18 #[iv p1, iv p2, iv (2 : Int32), rv b2, iv (0 : Int32), .unset, .unset, .unset, .unset] [] _
        refine XS.iloadN X3.here hx rfl (hb hby at_18) rfl ?_
        show own_S p e below T3 m 19 #[iv p1, iv p2, iv (2 : Int32), rv b2, iv (0 : Int32), .unset, .unset, .unset, .unset] [(.int (2 : Int32))] _
        refine XS.iconst X3.here hx rfl (hb hby at_19) ?_
        show own_S p e below T3 m 20 #[iv p1, iv p2, iv (2 : Int32), rv b2, iv (0 : Int32), .unset, .unset, .unset, .unset] [(.int (1 : Int32)), (.int (2 : Int32))] _
        refine XS.icmpNo X3.here hx rfl (hb hby at_20) rfl (flt (by decide : ¬ ((2 : Int32) < (1 : Int32)))).1 ?_
        show own_S p e below T3 m 23 #[iv p1, iv p2, iv (2 : Int32), rv b2, iv (0 : Int32), .unset, .unset, .unset, .unset] [] _
        refine XS.iloadN X3.here hx rfl (hb hby at_23) rfl ?_
        show own_S p e below T3 m 24 #[iv p1, iv p2, iv (2 : Int32), rv b2, iv (0 : Int32), .unset, .unset, .unset, .unset] [(.int p2)] _
        refine XS.iconst X3.here hx rfl (hb hby at_24) ?_
        show own_S p e below T3 m 25 #[iv p1, iv p2, iv (2 : Int32), rv b2, iv (0 : Int32), .unset, .unset, .unset, .unset] [(.int (1 : Int32)), (.int p2)] _
        refine XS.iand X3.here hx rfl (hb hby at_25) rfl ?_
        exact k)
      by_cases hc26_31 : (p2 &&& (1 : Int32)) = (0 : Int32)
      ·  -- pc 26 yes
        obtain ⟨cq33, kq33, q33a, q33b, q33c⟩ := isOf hZ e3 A2
        obtain ⟨_, _, ⟨T33, L33, k33, n33⟩, -, X33, ⟨Lc33, hQ33, l33, y33, z33⟩, st33⟩ := X3.virtualBack hx (y := (⟨"com/example/clockwright/clockwright/mcmc/Acceptance", "count", "(Z)V"⟩ : MethodName)) (z := (⟨"com/example/clockwright/clockwright/mcmc/Acceptance", "count", "(Z)V"⟩ : MethodName)) hown (mvT hZ (hw _ (List.mem_of_getElem? (i := 30) rfl))) (mvT hZ (hw _ (List.mem_of_getElem? (i := 31) rfl))) (notFace_of_selects (args := #[]) (mvT hZ (hw _ (List.mem_of_getElem? (i := 33) rfl)))) (mvT hZ (hw _ (List.mem_of_getElem? (i := 33) rfl))) (mvT hZ (hw _ (List.mem_of_getElem? (i := 32) rfl))) (by decide) (backOf (W := 0) (rm6 l Z a0 hw [] b2 (0 : Int32) (0 : Int64) (0 : Int64) h2 n0 Zs4 A2 g_b2 F_proposals_b2 F_accepted_b2) hZ (hw _ (List.mem_of_getElem? (i := 34) rfl)) (hw _ (List.mem_of_getElem? (i := 3) rfl)) (by decide) (by decide)) q33a q33c (g := (mkF m 39 #[iv p1, iv p2, iv (2 : Int32), rv b2, iv (0 : Int32), iv (0 : Int32), .unset, .unset, .unset] [(.int (0 : Int32)), (.ref b2)])) rfl (by rw [hml]; rfl) (Steps.refl _) (argsL := [(.int (0 : Int32))]) (rest := []) (lenOf pd_3 rfl) rfl (by show 2 * 0 + _ ≤ _; exact Nat.le_of_eq rfl) (hb hby at_39) (fun _ _ => ⟨rfl, e3, (by decide : 1 + 0 ≤ _), (by decide : 2 + 0 ≤ _)⟩)
        dsimp only [Pt.U, Pt.locs, Pt.cells, Pt.slots] at X33 l33 y33 z33 st33 hQ33
        subst l33 y33 z33
        obtain ⟨rfl, N33q, K33, E33c, Fp33, Fa33⟩ := hQ33
        have N33 := Fr.app N3 N33q
        rw [show ((0 : Int64) + (1 : Int64)) = (1 : Int64) from by decide] at Fp33
        rw [show ((0 : Int64) + own_one (0 : Int32)) = (0 : Int64) from by simp [own_one]] at Fa33
        have pre34 : ∀ tg, own_S p e below T33 m 50 #[iv p1, iv p2, iv (2 : Int32), rv b2, iv (0 : Int32), iv (0 : Int32), .unset, .unset, .unset] [] tg → Steps p.tables e below (s₁.setTop (entryFrame m #[(.int p1), (.int p2)] maxLocals)) tg := fun tg k => pre32 tg (by
          show own_S p e below T3 m 26 #[iv p1, iv p2, iv (2 : Int32), rv b2, iv (0 : Int32), .unset, .unset, .unset, .unset] [(.int (p2 &&& (1 : Int32)))] _
          refine XS.ifYes X3.here hx rfl (pc0 := 26) (pc' := 33) rfl (hb hby at_26) rfl ((if0 _ _).trans (teq hc26_31).1) (by decide) (by decide) ?_
          show own_S p e below T3 m 33 #[iv p1, iv p2, iv (2 : Int32), rv b2, iv (0 : Int32), .unset, .unset, .unset, .unset] [] _
          refine XS.iconst X3.here hx rfl (hb hby at_33) ?_
          show own_S p e below T3 m 34 #[iv p1, iv p2, iv (2 : Int32), rv b2, iv (0 : Int32), .unset, .unset, .unset, .unset] [(.int (0 : Int32))] _
          refine XS.istore X3.here hx rfl (hb hby at_34) rfl (l' := #[iv p1, iv p2, iv (2 : Int32), rv b2, iv (0 : Int32), iv (0 : Int32), .unset, .unset, .unset]) rfl ?_
          show own_S p e below T3 m 36 #[iv p1, iv p2, iv (2 : Int32), rv b2, iv (0 : Int32), iv (0 : Int32), .unset, .unset, .unset] [] _
          refine XS.aloadN X3.here hx rfl (hb hby at_36) rfl rfl ?_
          show own_S p e below T3 m 37 #[iv p1, iv p2, iv (2 : Int32), rv b2, iv (0 : Int32), iv (0 : Int32), .unset, .unset, .unset] [(.ref b2)] _
          refine XS.iload X3.here hx rfl (hb hby at_37) rfl ?_
          show own_S p e below T3 m 39 #[iv p1, iv p2, iv (2 : Int32), rv b2, iv (0 : Int32), iv (0 : Int32), .unset, .unset, .unset] [(.int (0 : Int32)), (.ref b2)] _
          refine st33.trans ?_
          show own_S p e below T33 m 42 #[iv p1, iv p2, iv (2 : Int32), rv b2, iv (0 : Int32), iv (0 : Int32), .unset, .unset, .unset] [] _
          refine XS.iload X33.here hx rfl (hb hby at_42) rfl ?_
          show own_S p e below T33 m 44 #[iv p1, iv p2, iv (2 : Int32), rv b2, iv (0 : Int32), iv (0 : Int32), .unset, .unset, .unset] [(.int (0 : Int32))] _
          refine XS.ifYes X33.here hx rfl (pc0 := 44) (pc' := 50) rfl (hb hby at_44) rfl ((if0 _ _).trans (teq (by decide : (0 : Int32) = (0 : Int32))).1) (by decide) (by decide) ?_
          exact k)
        exact ⟨T33, _, _, X33, rfl, N33, ((Keep.refl h2 [b2]).trans K33 (allS (Or.inl (List.mem_of_getElem? (i := 0) rfl)) all0)), (0 : Int32), (0 : Int64), (0 : Int32), (by decide), E33c, Fp33, Fa33, pre34⟩
      ·  -- pc 26 no
        obtain ⟨cq35, kq35, q35a, q35b, q35c⟩ := isOf hZ e3 A2
        obtain ⟨_, _, ⟨T35, L35, k35, n35⟩, -, X35, ⟨Lc35, hQ35, l35, y35, z35⟩, st35⟩ := X3.virtualBack hx (y := (⟨"com/example/clockwright/clockwright/mcmc/Acceptance", "count", "(Z)V"⟩ : MethodName)) (z := (⟨"com/example/clockwright/clockwright/mcmc/Acceptance", "count", "(Z)V"⟩ : MethodName)) hown (mvT hZ (hw _ (List.mem_of_getElem? (i := 30) rfl))) (mvT hZ (hw _ (List.mem_of_getElem? (i := 31) rfl))) (notFace_of_selects (args := #[]) (mvT hZ (hw _ (List.mem_of_getElem? (i := 33) rfl)))) (mvT hZ (hw _ (List.mem_of_getElem? (i := 33) rfl))) (mvT hZ (hw _ (List.mem_of_getElem? (i := 32) rfl))) (by decide) (backOf (W := 0) (rm6 l Z a0 hw [] b2 (1 : Int32) (0 : Int64) (0 : Int64) h2 n0 Zs4 A2 g_b2 F_proposals_b2 F_accepted_b2) hZ (hw _ (List.mem_of_getElem? (i := 34) rfl)) (hw _ (List.mem_of_getElem? (i := 3) rfl)) (by decide) (by decide)) q35a q35c (g := (mkF m 39 #[iv p1, iv p2, iv (2 : Int32), rv b2, iv (0 : Int32), iv (1 : Int32), .unset, .unset, .unset] [(.int (1 : Int32)), (.ref b2)])) rfl (by rw [hml]; rfl) (Steps.refl _) (argsL := [(.int (1 : Int32))]) (rest := []) (lenOf pd_3 rfl) rfl (by show 2 * 0 + _ ≤ _; exact Nat.le_of_eq rfl) (hb hby at_39) (fun _ _ => ⟨rfl, e3, (by decide : 1 + 0 ≤ _), (by decide : 2 + 0 ≤ _)⟩)
        dsimp only [Pt.U, Pt.locs, Pt.cells, Pt.slots] at X35 l35 y35 z35 st35 hQ35
        subst l35 y35 z35
        obtain ⟨rfl, N35q, K35, E35c, Fp35, Fa35⟩ := hQ35
        have N35 := Fr.app N3 N35q
        rw [show ((0 : Int64) + (1 : Int64)) = (1 : Int64) from by decide] at Fp35
        rw [show ((0 : Int64) + own_one (1 : Int32)) = ((0 : Int64) + (1 : Int64)) from by simp [own_one]] at Fa35
        have pre36 : ∀ tg, own_S p e below T35 m 50 #[iv p1, iv p2, iv (2 : Int32), rv b2, iv ((0 : Int32) + (1 : Int32)), iv (1 : Int32), .unset, .unset, .unset] [] tg → Steps p.tables e below (s₁.setTop (entryFrame m #[(.int p1), (.int p2)] maxLocals)) tg := fun tg k => pre32 tg (by
          show own_S p e below T3 m 26 #[iv p1, iv p2, iv (2 : Int32), rv b2, iv (0 : Int32), .unset, .unset, .unset, .unset] [(.int (p2 &&& (1 : Int32)))] _
          refine XS.ifNo X3.here hx rfl (hb hby at_26) rfl ((if0 _ _).trans (feq hc26_31).1) ?_
          show own_S p e below T3 m 29 #[iv p1, iv p2, iv (2 : Int32), rv b2, iv (0 : Int32), .unset, .unset, .unset, .unset] [] _
          refine XS.iconst X3.here hx rfl (hb hby at_29) ?_
          show own_S p e below T3 m 30 #[iv p1, iv p2, iv (2 : Int32), rv b2, iv (0 : Int32), .unset, .unset, .unset, .unset] [(.int (1 : Int32))] _
          refine XS.goto X3.here hx rfl (pc0 := 30) (pc' := 34) rfl (hb hby at_30) (by decide) (by decide) ?_
          show own_S p e below T3 m 34 #[iv p1, iv p2, iv (2 : Int32), rv b2, iv (0 : Int32), .unset, .unset, .unset, .unset] [(.int (1 : Int32))] _
          refine XS.istore X3.here hx rfl (hb hby at_34) rfl (l' := #[iv p1, iv p2, iv (2 : Int32), rv b2, iv (0 : Int32), iv (1 : Int32), .unset, .unset, .unset]) rfl ?_
          show own_S p e below T3 m 36 #[iv p1, iv p2, iv (2 : Int32), rv b2, iv (0 : Int32), iv (1 : Int32), .unset, .unset, .unset] [] _
          refine XS.aloadN X3.here hx rfl (hb hby at_36) rfl rfl ?_
          show own_S p e below T3 m 37 #[iv p1, iv p2, iv (2 : Int32), rv b2, iv (0 : Int32), iv (1 : Int32), .unset, .unset, .unset] [(.ref b2)] _
          refine XS.iload X3.here hx rfl (hb hby at_37) rfl ?_
          show own_S p e below T3 m 39 #[iv p1, iv p2, iv (2 : Int32), rv b2, iv (0 : Int32), iv (1 : Int32), .unset, .unset, .unset] [(.int (1 : Int32)), (.ref b2)] _
          refine st35.trans ?_
          show own_S p e below T35 m 42 #[iv p1, iv p2, iv (2 : Int32), rv b2, iv (0 : Int32), iv (1 : Int32), .unset, .unset, .unset] [] _
          refine XS.iload X35.here hx rfl (hb hby at_42) rfl ?_
          show own_S p e below T35 m 44 #[iv p1, iv p2, iv (2 : Int32), rv b2, iv (0 : Int32), iv (1 : Int32), .unset, .unset, .unset] [(.int (1 : Int32))] _
          refine XS.ifNo X35.here hx rfl (hb hby at_44) rfl ((if0 _ _).trans (feq (by decide : ¬ ((1 : Int32) = (0 : Int32)))).1) ?_
          show own_S p e below T35 m 47 #[iv p1, iv p2, iv (2 : Int32), rv b2, iv (0 : Int32), iv (1 : Int32), .unset, .unset, .unset] [] _
          refine XS.iinc X35.here hx rfl (hb hby at_47) rfl (l' := #[iv p1, iv p2, iv (2 : Int32), rv b2, iv ((0 : Int32) + (1 : Int32)), iv (1 : Int32), .unset, .unset, .unset]) rfl ?_
          exact k)
        exact ⟨T35, _, _, X35, rfl, N35, ((Keep.refl h2 [b2]).trans K35 (allS (Or.inl (List.mem_of_getElem? (i := 0) rfl)) all0)), ((0 : Int32) + (1 : Int32)), ((0 : Int64) + (1 : Int64)), (1 : Int32), (by decide), E35c, Fp35, Fa35, pre36⟩
    obtain ⟨Tj37, hj37, Lj37, Xj37, ej37, Nj37, Kj37, a_2, A_2, fz_2, h_a_2, Fj37_0, Fj37_1, Fj37_2, prej37⟩ : ∃ (Tj : State) (hj : Heap) (Lj : List Loc), Stand p l e room_1 s m #[(.int p1), (.int p2)] below meth c Tj Lj 1 2 ∧ Tj.heap = hj ∧ Fr n0 Lj ∧ Keep hj30 hj [b2] ∧ ∃ a_2 : Int32, ∃ A_2 : Int64, ∃ fz_2 : Int32, ((a_2 = 0 ∧ A_2 = 0) ∨ (a_2 = 1 ∧ A_2 = 1) ∨ (a_2 = 2 ∧ A_2 = 2)) ∧ (Exa Z hj b2 "com/example/clockwright/clockwright/mcmc/Acceptance") ∧ (Fld Z hj b2 "com/example/clockwright/clockwright/mcmc/Acceptance" "proposals" "J" (.long (2 : Int64))) ∧ (Fld Z hj b2 "com/example/clockwright/clockwright/mcmc/Acceptance" "accepted" "J" (.long A_2)) ∧ ∀ tg, own_S p e below Tj m 82 #[iv p1, iv p2, iv (2 : Int32), rv b2, iv a_2, iv fz_2, .unset, .unset, .unset] [] tg → Steps p.tables e below (s₁.setTop (entryFrame m #[(.int p1), (.int p2)] maxLocals)) tg := by
      have pre39 : ∀ tg, own_S p e below Tj30 m 58 #[iv p1, iv p2, iv (2 : Int32), rv b2, iv a_1, iv fz_1, .unset, .unset, .unset] [(.int (p2 &&& (2 : Int32)))] tg → Steps p.tables e below (s₁.setTop (entryFrame m #[(.int p1), (.int p2)] maxLocals)) tg := fun tg k => prej30 tg (by
        show own_S p e below Tj30 m 50 #[iv p1, iv p2, iv (2 : Int32), rv b2, iv a_1, iv fz_1, .unset, .unset, .unset] [] _
        refine XS.iloadN Xj30.here hx rfl (hb hby at_50) rfl ?_
        show own_S p e below Tj30 m 51 #[iv p1, iv p2, iv (2 : Int32), rv b2, iv a_1, iv fz_1, .unset, .unset, .unset] [(.int (2 : Int32))] _
        refine XS.iconst Xj30.here hx rfl (hb hby at_51) ?_
        show own_S p e below Tj30 m 52 #[iv p1, iv p2, iv (2 : Int32), rv b2, iv a_1, iv fz_1, .unset, .unset, .unset] [(.int (2 : Int32)), (.int (2 : Int32))] _
        refine XS.icmpNo Xj30.here hx rfl (hb hby at_52) rfl (flt (by decide : ¬ ((2 : Int32) < (2 : Int32)))).1 ?_
        show own_S p e below Tj30 m 55 #[iv p1, iv p2, iv (2 : Int32), rv b2, iv a_1, iv fz_1, .unset, .unset, .unset] [] _
        refine XS.iloadN Xj30.here hx rfl (hb hby at_55) rfl ?_
        show own_S p e below Tj30 m 56 #[iv p1, iv p2, iv (2 : Int32), rv b2, iv a_1, iv fz_1, .unset, .unset, .unset] [(.int p2)] _
        refine XS.iconst Xj30.here hx rfl (hb hby at_56) ?_
        show own_S p e below Tj30 m 57 #[iv p1, iv p2, iv (2 : Int32), rv b2, iv a_1, iv fz_1, .unset, .unset, .unset] [(.int (2 : Int32)), (.int p2)] _
        refine XS.iand Xj30.here hx rfl (hb hby at_57) rfl ?_
        exact k)
      by_cases hc58_38 : (p2 &&& (2 : Int32)) = (0 : Int32)
      ·  -- pc 58 yes
        have Zs41 : n0 ≤ hj30.size := (Nat.le_trans Zs4 Kj30.1)
        obtain ⟨cq40, kq40, q40a, q40b, q40c⟩ := isOf hZ ej30 Fj30_0
        obtain ⟨_, _, ⟨T40, L40, k40, n40⟩, -, X40, ⟨Lc40, hQ40, l40, y40, z40⟩, st40⟩ := Xj30.virtualBack hx (y := (⟨"com/example/clockwright/clockwright/mcmc/Acceptance", "count", "(Z)V"⟩ : MethodName)) (z := (⟨"com/example/clockwright/clockwright/mcmc/Acceptance", "count", "(Z)V"⟩ : MethodName)) hown (mvT hZ (hw _ (List.mem_of_getElem? (i := 30) rfl))) (mvT hZ (hw _ (List.mem_of_getElem? (i := 31) rfl))) (notFace_of_selects (args := #[]) (mvT hZ (hw _ (List.mem_of_getElem? (i := 33) rfl)))) (mvT hZ (hw _ (List.mem_of_getElem? (i := 33) rfl))) (mvT hZ (hw _ (List.mem_of_getElem? (i := 32) rfl))) (by decide) (backOf (W := 0) (rm6 l Z a0 hw [] b2 (0 : Int32) (1 : Int64) A_1 hj30 n0 Zs41 Fj30_0 g_b2 Fj30_1 Fj30_2) hZ (hw _ (List.mem_of_getElem? (i := 34) rfl)) (hw _ (List.mem_of_getElem? (i := 3) rfl)) (by decide) (by decide)) q40a q40c (g := (mkF m 71 #[iv p1, iv p2, iv (2 : Int32), rv b2, iv a_1, iv (0 : Int32), .unset, .unset, .unset] [(.int (0 : Int32)), (.ref b2)])) rfl (by rw [hml]; rfl) (Steps.refl _) (argsL := [(.int (0 : Int32))]) (rest := []) (lenOf pd_3 rfl) rfl (by show 2 * 0 + _ ≤ _; exact Nat.le_of_eq rfl) (hb hby at_71) (fun _ _ => ⟨rfl, ej30, (by decide : 1 + 0 ≤ _), (by decide : 2 + 0 ≤ _)⟩)
        dsimp only [Pt.U, Pt.locs, Pt.cells, Pt.slots] at X40 l40 y40 z40 st40 hQ40
        subst l40 y40 z40
        obtain ⟨rfl, N40q, K40, E40c, Fp40, Fa40⟩ := hQ40
        have N40 := Fr.app Nj30 N40q
        rw [show ((1 : Int64) + (1 : Int64)) = (2 : Int64) from by decide] at Fp40
        rw [show (A_1 + own_one (0 : Int32)) = A_1 from by simp [own_one]] at Fa40
        have pre42 : ∀ tg, own_S p e below T40 m 82 #[iv p1, iv p2, iv (2 : Int32), rv b2, iv a_1, iv (0 : Int32), .unset, .unset, .unset] [] tg → Steps p.tables e below (s₁.setTop (entryFrame m #[(.int p1), (.int p2)] maxLocals)) tg := fun tg k => pre39 tg (by
          show own_S p e below Tj30 m 58 #[iv p1, iv p2, iv (2 : Int32), rv b2, iv a_1, iv fz_1, .unset, .unset, .unset] [(.int (p2 &&& (2 : Int32)))] _
          refine XS.ifYes Xj30.here hx rfl (pc0 := 58) (pc' := 65) rfl (hb hby at_58) rfl ((if0 _ _).trans (teq hc58_38).1) (by decide) (by decide) ?_
          show own_S p e below Tj30 m 65 #[iv p1, iv p2, iv (2 : Int32), rv b2, iv a_1, iv fz_1, .unset, .unset, .unset] [] _
          refine XS.iconst Xj30.here hx rfl (hb hby at_65) ?_
          show own_S p e below Tj30 m 66 #[iv p1, iv p2, iv (2 : Int32), rv b2, iv a_1, iv fz_1, .unset, .unset, .unset] [(.int (0 : Int32))] _
          refine XS.istore Xj30.here hx rfl (hb hby at_66) rfl (l' := #[iv p1, iv p2, iv (2 : Int32), rv b2, iv a_1, iv (0 : Int32), .unset, .unset, .unset]) rfl ?_
          show own_S p e below Tj30 m 68 #[iv p1, iv p2, iv (2 : Int32), rv b2, iv a_1, iv (0 : Int32), .unset, .unset, .unset] [] _
          refine XS.aloadN Xj30.here hx rfl (hb hby at_68) rfl rfl ?_
          show own_S p e below Tj30 m 69 #[iv p1, iv p2, iv (2 : Int32), rv b2, iv a_1, iv (0 : Int32), .unset, .unset, .unset] [(.ref b2)] _
          refine XS.iload Xj30.here hx rfl (hb hby at_69) rfl ?_
          show own_S p e below Tj30 m 71 #[iv p1, iv p2, iv (2 : Int32), rv b2, iv a_1, iv (0 : Int32), .unset, .unset, .unset] [(.int (0 : Int32)), (.ref b2)] _
          refine st40.trans ?_
          show own_S p e below T40 m 74 #[iv p1, iv p2, iv (2 : Int32), rv b2, iv a_1, iv (0 : Int32), .unset, .unset, .unset] [] _
          refine XS.iload X40.here hx rfl (hb hby at_74) rfl ?_
          show own_S p e below T40 m 76 #[iv p1, iv p2, iv (2 : Int32), rv b2, iv a_1, iv (0 : Int32), .unset, .unset, .unset] [(.int (0 : Int32))] _
          refine XS.ifYes X40.here hx rfl (pc0 := 76) (pc' := 82) rfl (hb hby at_76) rfl ((if0 _ _).trans (teq (by decide : (0 : Int32) = (0 : Int32))).1) (by decide) (by decide) ?_
          exact k)
        exact ⟨T40, _, _, X40, rfl, N40, ((Keep.refl hj30 [b2]).trans K40 (allS (Or.inl (List.mem_of_getElem? (i := 0) rfl)) all0)), a_1, A_1, (0 : Int32), (by rcases h_a_1 with ⟨rfl, rfl⟩ | ⟨rfl, rfl⟩ <;> decide), E40c, Fp40, Fa40, pre42⟩
      ·  -- pc 58 no
        have Zs44 : n0 ≤ hj30.size := (Nat.le_trans Zs4 Kj30.1)
        obtain ⟨cq43, kq43, q43a, q43b, q43c⟩ := isOf hZ ej30 Fj30_0
        obtain ⟨_, _, ⟨T43, L43, k43, n43⟩, -, X43, ⟨Lc43, hQ43, l43, y43, z43⟩, st43⟩ := Xj30.virtualBack hx (y := (⟨"com/example/clockwright/clockwright/mcmc/Acceptance", "count", "(Z)V"⟩ : MethodName)) (z := (⟨"com/example/clockwright/clockwright/mcmc/Acceptance", "count", "(Z)V"⟩ : MethodName)) hown (mvT hZ (hw _ (List.mem_of_getElem? (i := 30) rfl))) (mvT hZ (hw _ (List.mem_of_getElem? (i := 31) rfl))) (notFace_of_selects (args := #[]) (mvT hZ (hw _ (List.mem_of_getElem? (i := 33) rfl)))) (mvT hZ (hw _ (List.mem_of_getElem? (i := 33) rfl))) (mvT hZ (hw _ (List.mem_of_getElem? (i := 32) rfl))) (by decide) (backOf (W := 0) (rm6 l Z a0 hw [] b2 (1 : Int32) (1 : Int64) A_1 hj30 n0 Zs44 Fj30_0 g_b2 Fj30_1 Fj30_2) hZ (hw _ (List.mem_of_getElem? (i := 34) rfl)) (hw _ (List.mem_of_getElem? (i := 3) rfl)) (by decide) (by decide)) q43a q43c (g := (mkF m 71 #[iv p1, iv p2, iv (2 : Int32), rv b2, iv a_1, iv (1 : Int32), .unset, .unset, .unset] [(.int (1 : Int32)), (.ref b2)])) rfl (by rw [hml]; rfl) (Steps.refl _) (argsL := [(.int (1 : Int32))]) (rest := []) (lenOf pd_3 rfl) rfl (by show 2 * 0 + _ ≤ _; exact Nat.le_of_eq rfl) (hb hby at_71) (fun _ _ => ⟨rfl, ej30, (by decide : 1 + 0 ≤ _), (by decide : 2 + 0 ≤ _)⟩)
        dsimp only [Pt.U, Pt.locs, Pt.cells, Pt.slots] at X43 l43 y43 z43 st43 hQ43
        subst l43 y43 z43
        obtain ⟨rfl, N43q, K43, E43c, Fp43, Fa43⟩ := hQ43
        have N43 := Fr.app Nj30 N43q
        rw [show ((1 : Int64) + (1 : Int64)) = (2 : Int64) from by decide] at Fp43
        rw [show (A_1 + own_one (1 : Int32)) = (A_1 + (1 : Int64)) from by simp [own_one]] at Fa43
        have pre45 : ∀ tg, own_S p e below T43 m 82 #[iv p1, iv p2, iv (2 : Int32), rv b2, iv (a_1 + (1 : Int32)), iv (1 : Int32), .unset, .unset, .unset] [] tg → Steps p.tables e below (s₁.setTop (entryFrame m #[(.int p1), (.int p2)] maxLocals)) tg := fun tg k => pre39 tg (by
          show own_S p e below Tj30 m 58 #[iv p1, iv p2, iv (2 : Int32), rv b2, iv a_1, iv fz_1, .unset, .unset, .unset] [(.int (p2 &&& (2 : Int32)))] _
          refine XS.ifNo Xj30.here hx rfl (hb hby at_58) rfl ((if0 _ _).trans (feq hc58_38).1) ?_
          show own_S p e below Tj30 m 61 #[iv p1, iv p2, iv (2 : Int32), rv b2, iv a_1, iv fz_1, .unset, .unset, .unset] [] _
          refine XS.iconst Xj30.here hx rfl (hb hby at_61) ?_
          show own_S p e below Tj30 m 62 #[iv p1, iv p2, iv (2 : Int32), rv b2, iv a_1, iv fz_1, .unset, .unset, .unset] [(.int (1 : Int32))] _
          refine XS.goto Xj30.here hx rfl (pc0 := 62) (pc' := 66) rfl (hb hby at_62) (by decide) (by decide) ?_
          show own_S p e below Tj30 m 66 #[iv p1, iv p2, iv (2 : Int32), rv b2, iv a_1, iv fz_1, .unset, .unset, .unset] [(.int (1 : Int32))] _
          refine XS.istore Xj30.here hx rfl (hb hby at_66) rfl (l' := #[iv p1, iv p2, iv (2 : Int32), rv b2, iv a_1, iv (1 : Int32), .unset, .unset, .unset]) rfl ?_
          show own_S p e below Tj30 m 68 #[iv p1, iv p2, iv (2 : Int32), rv b2, iv a_1, iv (1 : Int32), .unset, .unset, .unset] [] _
          refine XS.aloadN Xj30.here hx rfl (hb hby at_68) rfl rfl ?_
          show own_S p e below Tj30 m 69 #[iv p1, iv p2, iv (2 : Int32), rv b2, iv a_1, iv (1 : Int32), .unset, .unset, .unset] [(.ref b2)] _
          refine XS.iload Xj30.here hx rfl (hb hby at_69) rfl ?_
          show own_S p e below Tj30 m 71 #[iv p1, iv p2, iv (2 : Int32), rv b2, iv a_1, iv (1 : Int32), .unset, .unset, .unset] [(.int (1 : Int32)), (.ref b2)] _
          refine st43.trans ?_
          show own_S p e below T43 m 74 #[iv p1, iv p2, iv (2 : Int32), rv b2, iv a_1, iv (1 : Int32), .unset, .unset, .unset] [] _
          refine XS.iload X43.here hx rfl (hb hby at_74) rfl ?_
          show own_S p e below T43 m 76 #[iv p1, iv p2, iv (2 : Int32), rv b2, iv a_1, iv (1 : Int32), .unset, .unset, .unset] [(.int (1 : Int32))] _
          refine XS.ifNo X43.here hx rfl (hb hby at_76) rfl ((if0 _ _).trans (feq (by decide : ¬ ((1 : Int32) = (0 : Int32)))).1) ?_
          show own_S p e below T43 m 79 #[iv p1, iv p2, iv (2 : Int32), rv b2, iv a_1, iv (1 : Int32), .unset, .unset, .unset] [] _
          refine XS.iinc X43.here hx rfl (hb hby at_79) rfl (l' := #[iv p1, iv p2, iv (2 : Int32), rv b2, iv (a_1 + (1 : Int32)), iv (1 : Int32), .unset, .unset, .unset]) rfl ?_
          exact k)
        exact ⟨T43, _, _, X43, rfl, N43, ((Keep.refl hj30 [b2]).trans K43 (allS (Or.inl (List.mem_of_getElem? (i := 0) rfl)) all0)), (a_1 + (1 : Int32)), (A_1 + (1 : Int64)), (1 : Int32), (by rcases h_a_1 with ⟨rfl, rfl⟩ | ⟨rfl, rfl⟩ <;> decide), E43c, Fp43, Fa43, pre45⟩
    have pre46 : ∀ tg, own_S p e below Tj37 m 147 #[iv p1, iv p2, iv (2 : Int32), rv b2, iv a_2, iv fz_2, .unset, .unset, .unset] [] tg → Steps p.tables e below (s₁.setTop (entryFrame m #[(.int p1), (.int p2)] maxLocals)) tg := fun tg k => prej37 tg (by
      show own_S p e below Tj37 m 82 #[iv p1, iv p2, iv (2 : Int32), rv b2, iv a_2, iv fz_2, .unset, .unset, .unset] [] _
      refine XS.iloadN Xj37.here hx rfl (hb hby at_82) rfl ?_
      show own_S p e below Tj37 m 83 #[iv p1, iv p2, iv (2 : Int32), rv b2, iv a_2, iv fz_2, .unset, .unset, .unset] [(.int (2 : Int32))] _
      refine XS.iconst Xj37.here hx rfl (hb hby at_83) ?_
      show own_S p e below Tj37 m 84 #[iv p1, iv p2, iv (2 : Int32), rv b2, iv a_2, iv fz_2, .unset, .unset, .unset] [(.int (3 : Int32)), (.int (2 : Int32))] _
      refine XS.icmpYes Xj37.here hx rfl (pc0 := 84) (pc' := 114) rfl (hb hby at_84) rfl (tlt (by decide : (2 : Int32) < (3 : Int32))).1 (by decide) (by decide) ?_
      show own_S p e below Tj37 m 114 #[iv p1, iv p2, iv (2 : Int32), rv b2, iv a_2, iv fz_2, .unset, .unset, .unset] [] _
      refine XS.iloadN Xj37.here hx rfl (hb hby at_114) rfl ?_
      show own_S p e below Tj37 m 115 #[iv p1, iv p2, iv (2 : Int32), rv b2, iv a_2, iv fz_2, .unset, .unset, .unset] [(.int (2 : Int32))] _
      refine XS.iconst Xj37.here hx rfl (hb hby at_115) ?_
      show own_S p e below Tj37 m 116 #[iv p1, iv p2, iv (2 : Int32), rv b2, iv a_2, iv fz_2, .unset, .unset, .unset] [(.int (4 : Int32)), (.int (2 : Int32))] _
      refine XS.icmpYes Xj37.here hx rfl (pc0 := 116) (pc' := 147) rfl (hb hby at_116) rfl (tlt (by decide : (2 : Int32) < (4 : Int32))).1 (by decide) (by decide) ?_
      exact k)
    rcases h_a_2 with ⟨rfl, rfl⟩ | ⟨rfl, rfl⟩ | ⟨rfl, rfl⟩
    ·  -- case
      have Zs48 : n0 ≤ hj37.size := (Nat.le_trans (Nat.le_trans Zs4 Kj30.1) Kj37.1)
      obtain ⟨cq47, kq47, q47a, q47b, q47c⟩ := isOf hZ ej37 Fj37_0
      obtain ⟨_, _, ⟨T47, L47, k47, n47⟩, -, X47, ⟨Lc47, hQ47, l47, y47, z47⟩, st47⟩ := Xj37.virtualBack hx (y := (⟨"com/example/clockwright/clockwright/mcmc/Acceptance", "rate", "()D"⟩ : MethodName)) (z := (⟨"com/example/clockwright/clockwright/mcmc/Acceptance", "rate", "()D"⟩ : MethodName)) hown (mvT hZ (hw _ (List.mem_of_getElem? (i := 10) rfl))) (mvT hZ (hw _ (List.mem_of_getElem? (i := 11) rfl))) (notFace_of_selects (args := #[]) (mvT hZ (hw _ (List.mem_of_getElem? (i := 13) rfl)))) (mvT hZ (hw _ (List.mem_of_getElem? (i := 13) rfl))) (mvT hZ (hw _ (List.mem_of_getElem? (i := 12) rfl))) (by decide) (backOf (W := 0) (rmR1 l Z a0 hw [] b2 (2 : Int64) (0 : Int64) hj37 n0 Zs48 Fj37_1 Fj37_2 (by decide) (by unfold Jvm.Free.Fl.NoNaN64; decide +kernel)) hZ (hw _ (List.mem_of_getElem? (i := 14) rfl)) (hw _ (List.mem_of_getElem? (i := 3) rfl)) (by decide) (by decide)) q47a q47c (g := (mkF m 148 #[iv p1, iv p2, iv (2 : Int32), rv b2, iv (0 : Int32), iv fz_2, .unset, .unset, .unset] [(.ref b2)])) rfl (by rw [hml]; rfl) (Steps.refl _) (argsL := []) (rest := []) (lenOf pd_1 rfl) rfl (by show 2 * 0 + _ ≤ _; exact Nat.le_of_eq rfl) (hb hby at_148) (fun _ _ => ⟨rfl, ej37, (by decide : 1 + 0 ≤ _), (by decide : 2 + 0 ≤ _)⟩)
      dsimp only [Pt.U, Pt.locs, Pt.cells, Pt.slots] at X47 l47 y47 z47 st47 hQ47
      subst l47 y47 z47
      obtain ⟨hv47, N47q, e47q⟩ := hQ47
      have N47 := Fr.app Nj37 N47q
      rw [show FP.ddiv (FP.l2d (0 : Int64)) (FP.l2d (2 : Int64)) = (0 : UInt64) from by decide +kernel] at hv47
      subst hv47
      have e47 : T47.heap = hj37 := e47q
      obtain ⟨cq49, kq49, q49a, q49b, q49c⟩ := isOf hZ e47 Fj37_0
      obtain ⟨_, _, ⟨T49, L49, k49, n49⟩, -, X49, ⟨Lc49, hQ49, l49, y49, z49⟩, st49⟩ := X47.virtualBack hx (y := (⟨"com/example/clockwright/clockwright/mcmc/Acceptance", "proposals", "()J"⟩ : MethodName)) (z := (⟨"com/example/clockwright/clockwright/mcmc/Acceptance", "proposals", "()J"⟩ : MethodName)) hown (mvT hZ (hw _ (List.mem_of_getElem? (i := 18) rfl))) (mvT hZ (hw _ (List.mem_of_getElem? (i := 19) rfl))) (notFace_of_selects (args := #[]) (mvT hZ (hw _ (List.mem_of_getElem? (i := 21) rfl)))) (mvT hZ (hw _ (List.mem_of_getElem? (i := 21) rfl))) (mvT hZ (hw _ (List.mem_of_getElem? (i := 20) rfl))) (by decide) (backOf (W := 0) (rm4 l Z a0 hw [] b2 (2 : Int64) hj37 n0 Zs48 Fj37_1) hZ (hw _ (List.mem_of_getElem? (i := 22) rfl)) (hw _ (List.mem_of_getElem? (i := 3) rfl)) (by decide) (by decide)) q49a q49c (g := (mkF m 154 #[iv p1, iv p2, iv (2 : Int32), rv b2, iv (0 : Int32), .val (.double (0 : UInt64)), .second, .unset, .unset] [(.ref b2)])) rfl (by rw [hml]; rfl) (Steps.refl _) (argsL := []) (rest := []) (lenOf pd_2 rfl) rfl (by show 2 * 0 + _ ≤ _; exact Nat.le_of_eq rfl) (hb hby at_154) (fun _ _ => ⟨rfl, e47, (by decide : 1 + 0 ≤ _), (by decide : 2 + 0 ≤ _)⟩)
      dsimp only [Pt.U, Pt.locs, Pt.cells, Pt.slots] at X49 l49 y49 z49 st49 hQ49
      subst l49 y49 z49
      obtain ⟨rfl, N49q, e49q⟩ := hQ49
      have N49 := Fr.app N47 N49q
      have e49 : T49.heap = hj37 := e49q
      obtain ⟨cq50, kq50, q50a, q50b, q50c⟩ := isOf hZ e49 Fj37_0
      obtain ⟨_, _, ⟨T50, L50, k50, n50⟩, -, X50, ⟨Lc50, hQ50, l50, y50, z50⟩, st50⟩ := X49.virtualBack hx (y := (⟨"com/example/clockwright/clockwright/mcmc/Acceptance", "accepted", "()J"⟩ : MethodName)) (z := (⟨"com/example/clockwright/clockwright/mcmc/Acceptance", "accepted", "()J"⟩ : MethodName)) hown (mvT hZ (hw _ (List.mem_of_getElem? (i := 23) rfl))) (mvT hZ (hw _ (List.mem_of_getElem? (i := 24) rfl))) (notFace_of_selects (args := #[]) (mvT hZ (hw _ (List.mem_of_getElem? (i := 26) rfl)))) (mvT hZ (hw _ (List.mem_of_getElem? (i := 26) rfl))) (mvT hZ (hw _ (List.mem_of_getElem? (i := 25) rfl))) (by decide) (backOf (W := 0) (rm5 l Z a0 hw [] b2 (0 : Int64) hj37 n0 Zs48 Fj37_2) hZ (hw _ (List.mem_of_getElem? (i := 27) rfl)) (hw _ (List.mem_of_getElem? (i := 3) rfl)) (by decide) (by decide)) q50a q50c (g := (mkF m 164 #[iv p1, iv p2, iv (2 : Int32), rv b2, iv (0 : Int32), .val (.double (0 : UInt64)), .second, .unset, .unset] [(.ref b2)])) rfl (by rw [hml]; rfl) (Steps.refl _) (argsL := []) (rest := []) (lenOf pd_2 rfl) rfl (by show 2 * 0 + _ ≤ _; exact Nat.le_of_eq rfl) (hb hby at_164) (fun _ _ => ⟨rfl, e49, (by decide : 1 + 0 ≤ _), (by decide : 2 + 0 ≤ _)⟩)
      dsimp only [Pt.U, Pt.locs, Pt.cells, Pt.slots] at X50 l50 y50 z50 st50 hQ50
      subst l50 y50 z50
      obtain ⟨rfl, N50q, e50q⟩ := hQ50
      have N50 := Fr.app N49 N50q
      have e50 : T50.heap = hj37 := e50q
      obtain ⟨_, _, ⟨T51, L51, k51, n51⟩, -, X51, ⟨Lc51, hQ51, l51, y51, z51⟩, st51⟩ := Jvm.LawKit.callS X50 hx (y := (⟨"com/example/clockwright/clockwright/mcmc/AcceptanceRatePinLaw", "expected", "(II)D"⟩ : MethodName)) hown (mvT hZ (hw _ (List.mem_of_getElem? (i := 35) rfl))) (mvT hZ (hw _ (List.mem_of_getElem? (i := 36) rfl))) (mvT hZ (hw _ (List.mem_of_getElem? (i := 37) rfl))) (mvT hZ (hw _ (List.mem_of_getElem? (i := 38) rfl))) (by decide) (backOf (W := 0) (rm7 l Z a0 hw [] (2 : Int32) (0 : Int32) hj37 n0 Zs48 ) hZ (hw _ (List.mem_of_getElem? (i := 38) rfl)) (hw _ (List.mem_of_getElem? (i := 37) rfl)) (by decide) (by decide)) (g := (mkF m 197 #[iv p1, iv p2, iv (2 : Int32), rv b2, iv (0 : Int32), .val (.double (0 : UInt64)), .second, .unset, .unset] [(.int (0 : Int32)), (.int (2 : Int32))])) rfl (by rw [hml]; rfl) (argsL := [(.int (2 : Int32)), (.int (0 : Int32))]) (rest := []) (lenOf pd_4 rfl) rfl (by show 2 * 0 + _ ≤ _; exact Nat.le_of_eq rfl) (hb hby at_197) (fun _ _ => ⟨rfl, e50, (by decide : 1 + 0 ≤ _), (by decide : 2 + 0 ≤ _)⟩)
      dsimp only [Pt.U, Pt.locs, Pt.cells, Pt.slots] at X51 l51 y51 z51 st51 hQ51
      subst l51 y51 z51
      obtain ⟨hv51, N51q, e51q⟩ := hQ51
      have N51 := Fr.app N50 N51q
      rw [show own_exp (2 : Int32) (0 : Int32) = (0 : UInt64) from by decide] at hv51
      subst hv51
      have e51 : T51.heap = hj37 := e51q
      have pre52 : ∀ tg, own_S p e below T51 m 229 #[iv p1, iv p2, iv (2 : Int32), rv b2, iv (0 : Int32), .val (.double (0 : UInt64)), .second, .val (.double (0 : UInt64)), .second] [(.int (1 : Int32))] tg → Steps p.tables e below (s₁.setTop (entryFrame m #[(.int p1), (.int p2)] maxLocals)) tg := fun tg k => pre46 tg (by
        show own_S p e below Tj37 m 147 #[iv p1, iv p2, iv (2 : Int32), rv b2, iv (0 : Int32), iv fz_2, .unset, .unset, .unset] [] _
        refine XS.aloadN Xj37.here hx rfl (hb hby at_147) rfl rfl ?_
        show own_S p e below Tj37 m 148 #[iv p1, iv p2, iv (2 : Int32), rv b2, iv (0 : Int32), iv fz_2, .unset, .unset, .unset] [(.ref b2)] _
        refine st47.trans ?_
        show own_S p e below T47 m 151 #[iv p1, iv p2, iv (2 : Int32), rv b2, iv (0 : Int32), iv fz_2, .unset, .unset, .unset] [(.double (0 : UInt64))] _
        refine XS.dstore X47.here hx rfl (hb hby at_151) rfl (l' := #[iv p1, iv p2, iv (2 : Int32), rv b2, iv (0 : Int32), .val (.double (0 : UInt64)), .second, .unset, .unset]) rfl ?_
        show own_S p e below T47 m 153 #[iv p1, iv p2, iv (2 : Int32), rv b2, iv (0 : Int32), .val (.double (0 : UInt64)), .second, .unset, .unset] [] _
        refine XS.aloadN X47.here hx rfl (hb hby at_153) rfl rfl ?_
        show own_S p e below T47 m 154 #[iv p1, iv p2, iv (2 : Int32), rv b2, iv (0 : Int32), .val (.double (0 : UInt64)), .second, .unset, .unset] [(.ref b2)] _
        refine st49.trans ?_
        show own_S p e below T49 m 157 #[iv p1, iv p2, iv (2 : Int32), rv b2, iv (0 : Int32), .val (.double (0 : UInt64)), .second, .unset, .unset] [(.long (2 : Int64))] _
        refine XS.iloadN X49.here hx rfl (hb hby at_157) rfl ?_
        show own_S p e below T49 m 158 #[iv p1, iv p2, iv (2 : Int32), rv b2, iv (0 : Int32), .val (.double (0 : UInt64)), .second, .unset, .unset] [(.int (2 : Int32)), (.long (2 : Int64))] _
        refine XS.i2l X49.here hx rfl (hb hby at_158) rfl ?_
        show own_S p e below T49 m 159 #[iv p1, iv p2, iv (2 : Int32), rv b2, iv (0 : Int32), .val (.double (0 : UInt64)), .second, .unset, .unset] [(.long ((2 : Int32).toInt64)), (.long (2 : Int64))] _
        refine XS.lcmp X49.here hx rfl (hb hby at_159) rfl ?_
        show own_S p e below T49 m 160 #[iv p1, iv p2, iv (2 : Int32), rv b2, iv (0 : Int32), .val (.double (0 : UInt64)), .second, .unset, .unset] [(.int (lcmpW (2 : Int64) ((2 : Int32).toInt64)))] _
        refine XS.ifNo X49.here hx rfl (hb hby at_160) rfl ((if0 _ _).trans (teq ((lw_eq _ _).mpr (by decide : (2 : Int64) = ((2 : Int32).toInt64)))).2) ?_
        show own_S p e below T49 m 163 #[iv p1, iv p2, iv (2 : Int32), rv b2, iv (0 : Int32), .val (.double (0 : UInt64)), .second, .unset, .unset] [] _
        refine XS.aloadN X49.here hx rfl (hb hby at_163) rfl rfl ?_
        show own_S p e below T49 m 164 #[iv p1, iv p2, iv (2 : Int32), rv b2, iv (0 : Int32), .val (.double (0 : UInt64)), .second, .unset, .unset] [(.ref b2)] _
        refine st50.trans ?_
        show own_S p e below T50 m 167 #[iv p1, iv p2, iv (2 : Int32), rv b2, iv (0 : Int32), .val (.double (0 : UInt64)), .second, .unset, .unset] [(.long (0 : Int64))] _
        refine XS.iload X50.here hx rfl (hb hby at_167) rfl ?_
        show own_S p e below T50 m 169 #[iv p1, iv p2, iv (2 : Int32), rv b2, iv (0 : Int32), .val (.double (0 : UInt64)), .second, .unset, .unset] [(.int (0 : Int32)), (.long (0 : Int64))] _
        refine XS.i2l X50.here hx rfl (hb hby at_169) rfl ?_
        show own_S p e below T50 m 170 #[iv p1, iv p2, iv (2 : Int32), rv b2, iv (0 : Int32), .val (.double (0 : UInt64)), .second, .unset, .unset] [(.long ((0 : Int32).toInt64)), (.long (0 : Int64))] _
        refine XS.lcmp X50.here hx rfl (hb hby at_170) rfl ?_
        show own_S p e below T50 m 171 #[iv p1, iv p2, iv (2 : Int32), rv b2, iv (0 : Int32), .val (.double (0 : UInt64)), .second, .unset, .unset] [(.int (lcmpW (0 : Int64) ((0 : Int32).toInt64)))] _
        refine XS.ifYes X50.here hx rfl (pc0 := 171) (pc' := 176) rfl (hb hby at_171) rfl ((if0 _ _).trans (teq ((lw_eq _ _).mpr (by decide : (0 : Int64) = ((0 : Int32).toInt64)))).1) (by decide) (by decide) ?_
        show own_S p e below T50 m 176 #[iv p1, iv p2, iv (2 : Int32), rv b2, iv (0 : Int32), .val (.double (0 : UInt64)), .second, .unset, .unset] [] _
        refine XS.iloadN X50.here hx rfl (hb hby at_176) rfl ?_
        show own_S p e below T50 m 177 #[iv p1, iv p2, iv (2 : Int32), rv b2, iv (0 : Int32), .val (.double (0 : UInt64)), .second, .unset, .unset] [(.int (2 : Int32))] _
        refine XS.ifYes X50.here hx rfl (pc0 := 177) (pc' := 194) rfl (hb hby at_177) rfl ((if0 _ _).trans (feq (by decide : ¬ ((2 : Int32) = (0 : Int32)))).2) (by decide) (by decide) ?_
        show own_S p e below T50 m 194 #[iv p1, iv p2, iv (2 : Int32), rv b2, iv (0 : Int32), .val (.double (0 : UInt64)), .second, .unset, .unset] [] _
        refine XS.iloadN X50.here hx rfl (hb hby at_194) rfl ?_
        show own_S p e below T50 m 195 #[iv p1, iv p2, iv (2 : Int32), rv b2, iv (0 : Int32), .val (.double (0 : UInt64)), .second, .unset, .unset] [(.int (2 : Int32))] _
        refine XS.iload X50.here hx rfl (hb hby at_195) rfl ?_
        show own_S p e below T50 m 197 #[iv p1, iv p2, iv (2 : Int32), rv b2, iv (0 : Int32), .val (.double (0 : UInt64)), .second, .unset, .unset] [(.int (0 : Int32)), (.int (2 : Int32))] _
        refine st51 _ ?_
        show own_S p e below T51 m 200 #[iv p1, iv p2, iv (2 : Int32), rv b2, iv (0 : Int32), .val (.double (0 : UInt64)), .second, .unset, .unset] [(.double (0 : UInt64))] _
        refine XS.dstore X51.here hx rfl (hb hby at_200) rfl (l' := #[iv p1, iv p2, iv (2 : Int32), rv b2, iv (0 : Int32), .val (.double (0 : UInt64)), .second, .val (.double (0 : UInt64)), .second]) rfl ?_
        show own_S p e below T51 m 202 #[iv p1, iv p2, iv (2 : Int32), rv b2, iv (0 : Int32), .val (.double (0 : UInt64)), .second, .val (.double (0 : UInt64)), .second] [] _
        refine XS.dload X51.here hx rfl (hb hby at_202) rfl ?_
        show own_S p e below T51 m 204 #[iv p1, iv p2, iv (2 : Int32), rv b2, iv (0 : Int32), .val (.double (0 : UInt64)), .second, .val (.double (0 : UInt64)), .second] [(.double (0 : UInt64))] _
        refine XS.dload X51.here hx rfl (hb hby at_204) rfl ?_
        show own_S p e below T51 m 206 #[iv p1, iv p2, iv (2 : Int32), rv b2, iv (0 : Int32), .val (.double (0 : UInt64)), .second, .val (.double (0 : UInt64)), .second] [(.double (0 : UInt64)), (.double (0 : UInt64))] _
        refine XS.dcmpS X51.here hx rfl (hb hby at_206) rfl (v := (0 : Int32)) (by decide +kernel) ?_
        show own_S p e below T51 m 207 #[iv p1, iv p2, iv (2 : Int32), rv b2, iv (0 : Int32), .val (.double (0 : UInt64)), .second, .val (.double (0 : UInt64)), .second] [(.int (0 : Int32))] _
        refine XS.ifNo X51.here hx rfl (hb hby at_207) rfl ((if0 _ _).trans (teq (by decide : (0 : Int32) = (0 : Int32))).2) ?_
        show own_S p e below T51 m 210 #[iv p1, iv p2, iv (2 : Int32), rv b2, iv (0 : Int32), .val (.double (0 : UInt64)), .second, .val (.double (0 : UInt64)), .second] [] _
        refine XS.dconst0 X51.here hx rfl (hb hby at_210) (v := (0 : UInt64)) rfl ?_
        show own_S p e below T51 m 211 #[iv p1, iv p2, iv (2 : Int32), rv b2, iv (0 : Int32), .val (.double (0 : UInt64)), .second, .val (.double (0 : UInt64)), .second] [(.double (0 : UInt64))] _
        refine XS.dload X51.here hx rfl (hb hby at_211) rfl ?_
        show own_S p e below T51 m 213 #[iv p1, iv p2, iv (2 : Int32), rv b2, iv (0 : Int32), .val (.double (0 : UInt64)), .second, .val (.double (0 : UInt64)), .second] [(.double (0 : UInt64)), (.double (0 : UInt64))] _
        refine XS.dcmpS X51.here hx rfl (hb hby at_213) rfl (v := (0 : Int32)) (by decide +kernel) ?_
        show own_S p e below T51 m 214 #[iv p1, iv p2, iv (2 : Int32), rv b2, iv (0 : Int32), .val (.double (0 : UInt64)), .second, .val (.double (0 : UInt64)), .second] [(.int (0 : Int32))] _
        refine XS.ifNo X51.here hx rfl (hb hby at_214) rfl ((if0 _ _).trans (flt (by decide : ¬ ((0 : Int32) < (0 : Int32)))).2.2.1) ?_
        show own_S p e below T51 m 217 #[iv p1, iv p2, iv (2 : Int32), rv b2, iv (0 : Int32), .val (.double (0 : UInt64)), .second, .val (.double (0 : UInt64)), .second] [] _
        refine XS.dload X51.here hx rfl (hb hby at_217) rfl ?_
        show own_S p e below T51 m 219 #[iv p1, iv p2, iv (2 : Int32), rv b2, iv (0 : Int32), .val (.double (0 : UInt64)), .second, .val (.double (0 : UInt64)), .second] [(.double (0 : UInt64))] _
        refine XS.dconst1 X51.here hx rfl (hb hby at_219) (v := (4607182418800017408 : UInt64)) rfl ?_
        show own_S p e below T51 m 220 #[iv p1, iv p2, iv (2 : Int32), rv b2, iv (0 : Int32), .val (.double (0 : UInt64)), .second, .val (.double (0 : UInt64)), .second] [(.double (4607182418800017408 : UInt64)), (.double (0 : UInt64))] _
        refine XS.dcmpS X51.here hx rfl (hb hby at_220) rfl (v := (-1 : Int32)) (by decide +kernel) ?_
        show own_S p e below T51 m 221 #[iv p1, iv p2, iv (2 : Int32), rv b2, iv (0 : Int32), .val (.double (0 : UInt64)), .second, .val (.double (0 : UInt64)), .second] [(.int (-1 : Int32))] _
        refine XS.ifNo X51.here hx rfl (hb hby at_221) rfl ((if0 _ _).trans (flt (by decide : ¬ ((0 : Int32) < (-1 : Int32)))).2.2.1) ?_
        show own_S p e below T51 m 224 #[iv p1, iv p2, iv (2 : Int32), rv b2, iv (0 : Int32), .val (.double (0 : UInt64)), .second, .val (.double (0 : UInt64)), .second] [] _
        refine XS.iconst X51.here hx rfl (hb hby at_224) ?_
        show own_S p e below T51 m 225 #[iv p1, iv p2, iv (2 : Int32), rv b2, iv (0 : Int32), .val (.double (0 : UInt64)), .second, .val (.double (0 : UInt64)), .second] [(.int (1 : Int32))] _
        refine XS.goto X51.here hx rfl (pc0 := 225) (pc' := 229) rfl (hb hby at_225) (by decide) (by decide) ?_
        exact k)
      obtain ⟨fs, hr, hrun, hended, hW, hsame⟩ := X51.leave (v := some (.int (nar .boolean (1 : Int32)))) (fun h => by rw [Bd.returns] at h; cases h)
      refine ⟨_, _, pre52 _ ?_, hrun, hended, _, _, rfl, ?_, ⟨_, rfl⟩, hW, hsame.mono (by decide) (by decide)⟩
      · show own_S p e below T51 m 229 #[iv p1, iv p2, iv (2 : Int32), rv b2, iv (0 : Int32), .val (.double (0 : UInt64)), .second, .val (.double (0 : UInt64)), .second] [(.int (1 : Int32))] _
        exact retN X51 hx (t := .boolean) Bd.returns (by simp) (hb hby at_229) hr
      · show Q0 Z p1 p2 h0 n0 _ T51.heap _
        rw [e51]
        exact ⟨rfl, N51⟩
    ·  -- case
      have Zs54 : n0 ≤ hj37.size := (Nat.le_trans (Nat.le_trans Zs4 Kj30.1) Kj37.1)
      obtain ⟨cq53, kq53, q53a, q53b, q53c⟩ := isOf hZ ej37 Fj37_0
      obtain ⟨_, _, ⟨T53, L53, k53, n53⟩, -, X53, ⟨Lc53, hQ53, l53, y53, z53⟩, st53⟩ := Xj37.virtualBack hx (y := (⟨"com/example/clockwright/clockwright/mcmc/Acceptance", "rate", "()D"⟩ : MethodName)) (z := (⟨"com/example/clockwright/clockwright/mcmc/Acceptance", "rate", "()D"⟩ : MethodName)) hown (mvT hZ (hw _ (List.mem_of_getElem? (i := 10) rfl))) (mvT hZ (hw _ (List.mem_of_getElem? (i := 11) rfl))) (notFace_of_selects (args := #[]) (mvT hZ (hw _ (List.mem_of_getElem? (i := 13) rfl)))) (mvT hZ (hw _ (List.mem_of_getElem? (i := 13) rfl))) (mvT hZ (hw _ (List.mem_of_getElem? (i := 12) rfl))) (by decide) (backOf (W := 0) (rmR1 l Z a0 hw [] b2 (2 : Int64) (1 : Int64) hj37 n0 Zs54 Fj37_1 Fj37_2 (by decide) (by unfold Jvm.Free.Fl.NoNaN64; decide +kernel)) hZ (hw _ (List.mem_of_getElem? (i := 14) rfl)) (hw _ (List.mem_of_getElem? (i := 3) rfl)) (by decide) (by decide)) q53a q53c (g := (mkF m 148 #[iv p1, iv p2, iv (2 : Int32), rv b2, iv (1 : Int32), iv fz_2, .unset, .unset, .unset] [(.ref b2)])) rfl (by rw [hml]; rfl) (Steps.refl _) (argsL := []) (rest := []) (lenOf pd_1 rfl) rfl (by show 2 * 0 + _ ≤ _; exact Nat.le_of_eq rfl) (hb hby at_148) (fun _ _ => ⟨rfl, ej37, (by decide : 1 + 0 ≤ _), (by decide : 2 + 0 ≤ _)⟩)
      dsimp only [Pt.U, Pt.locs, Pt.cells, Pt.slots] at X53 l53 y53 z53 st53 hQ53
      subst l53 y53 z53
      obtain ⟨hv53, N53q, e53q⟩ := hQ53
      have N53 := Fr.app Nj37 N53q
      rw [show FP.ddiv (FP.l2d (1 : Int64)) (FP.l2d (2 : Int64)) = (4602678819172646912 : UInt64) from by decide +kernel] at hv53
      subst hv53
      have e53 : T53.heap = hj37 := e53q
      obtain ⟨cq55, kq55, q55a, q55b, q55c⟩ := isOf hZ e53 Fj37_0
      obtain ⟨_, _, ⟨T55, L55, k55, n55⟩, -, X55, ⟨Lc55, hQ55, l55, y55, z55⟩, st55⟩ := X53.virtualBack hx (y := (⟨"com/example/clockwright/clockwright/mcmc/Acceptance", "proposals", "()J"⟩ : MethodName)) (z := (⟨"com/example/clockwright/clockwright/mcmc/Acceptance", "proposals", "()J"⟩ : MethodName)) hown (mvT hZ (hw _ (List.mem_of_getElem? (i := 18) rfl))) (mvT hZ (hw _ (List.mem_of_getElem? (i := 19) rfl))) (notFace_of_selects (args := #[]) (mvT hZ (hw _ (List.mem_of_getElem? (i := 21) rfl)))) (mvT hZ (hw _ (List.mem_of_getElem? (i := 21) rfl))) (mvT hZ (hw _ (List.mem_of_getElem? (i := 20) rfl))) (by decide) (backOf (W := 0) (rm4 l Z a0 hw [] b2 (2 : Int64) hj37 n0 Zs54 Fj37_1) hZ (hw _ (List.mem_of_getElem? (i := 22) rfl)) (hw _ (List.mem_of_getElem? (i := 3) rfl)) (by decide) (by decide)) q55a q55c (g := (mkF m 154 #[iv p1, iv p2, iv (2 : Int32), rv b2, iv (1 : Int32), .val (.double (4602678819172646912 : UInt64)), .second, .unset, .unset] [(.ref b2)])) rfl (by rw [hml]; rfl) (Steps.refl _) (argsL := []) (rest := []) (lenOf pd_2 rfl) rfl (by show 2 * 0 + _ ≤ _; exact Nat.le_of_eq rfl) (hb hby at_154) (fun _ _ => ⟨rfl, e53, (by decide : 1 + 0 ≤ _), (by decide : 2 + 0 ≤ _)⟩)
      dsimp only [Pt.U, Pt.locs, Pt.cells, Pt.slots] at X55 l55 y55 z55 st55 hQ55
      subst l55 y55 z55
      obtain ⟨rfl, N55q, e55q⟩ := hQ55
      have N55 := Fr.app N53 N55q
      have e55 : T55.heap = hj37 := e55q
      obtain ⟨cq56, kq56, q56a, q56b, q56c⟩ := isOf hZ e55 Fj37_0
      obtain ⟨_, _, ⟨T56, L56, k56, n56⟩, -, X56, ⟨Lc56, hQ56, l56, y56, z56⟩, st56⟩ := X55.virtualBack hx (y := (⟨"com/example/clockwright/clockwright/mcmc/Acceptance", "accepted", "()J"⟩ : MethodName)) (z := (⟨"com/example/clockwright/clockwright/mcmc/Acceptance", "accepted", "()J"⟩ : MethodName)) hown (mvT hZ (hw _ (List.mem_of_getElem? (i := 23) rfl))) (mvT hZ (hw _ (List.mem_of_getElem? (i := 24) rfl))) (notFace_of_selects (args := #[]) (mvT hZ (hw _ (List.mem_of_getElem? (i := 26) rfl)))) (mvT hZ (hw _ (List.mem_of_getElem? (i := 26) rfl))) (mvT hZ (hw _ (List.mem_of_getElem? (i := 25) rfl))) (by decide) (backOf (W := 0) (rm5 l Z a0 hw [] b2 (1 : Int64) hj37 n0 Zs54 Fj37_2) hZ (hw _ (List.mem_of_getElem? (i := 27) rfl)) (hw _ (List.mem_of_getElem? (i := 3) rfl)) (by decide) (by decide)) q56a q56c (g := (mkF m 164 #[iv p1, iv p2, iv (2 : Int32), rv b2, iv (1 : Int32), .val (.double (4602678819172646912 : UInt64)), .second, .unset, .unset] [(.ref b2)])) rfl (by rw [hml]; rfl) (Steps.refl _) (argsL := []) (rest := []) (lenOf pd_2 rfl) rfl (by show 2 * 0 + _ ≤ _; exact Nat.le_of_eq rfl) (hb hby at_164) (fun _ _ => ⟨rfl, e55, (by decide : 1 + 0 ≤ _), (by decide : 2 + 0 ≤ _)⟩)
      dsimp only [Pt.U, Pt.locs, Pt.cells, Pt.slots] at X56 l56 y56 z56 st56 hQ56
      subst l56 y56 z56
      obtain ⟨rfl, N56q, e56q⟩ := hQ56
      have N56 := Fr.app N55 N56q
      have e56 : T56.heap = hj37 := e56q
      obtain ⟨_, _, ⟨T57, L57, k57, n57⟩, -, X57, ⟨Lc57, hQ57, l57, y57, z57⟩, st57⟩ := Jvm.LawKit.callS X56 hx (y := (⟨"com/example/clockwright/clockwright/mcmc/AcceptanceRatePinLaw", "expected", "(II)D"⟩ : MethodName)) hown (mvT hZ (hw _ (List.mem_of_getElem? (i := 35) rfl))) (mvT hZ (hw _ (List.mem_of_getElem? (i := 36) rfl))) (mvT hZ (hw _ (List.mem_of_getElem? (i := 37) rfl))) (mvT hZ (hw _ (List.mem_of_getElem? (i := 38) rfl))) (by decide) (backOf (W := 0) (rm7 l Z a0 hw [] (2 : Int32) (1 : Int32) hj37 n0 Zs54 ) hZ (hw _ (List.mem_of_getElem? (i := 38) rfl)) (hw _ (List.mem_of_getElem? (i := 37) rfl)) (by decide) (by decide)) (g := (mkF m 197 #[iv p1, iv p2, iv (2 : Int32), rv b2, iv (1 : Int32), .val (.double (4602678819172646912 : UInt64)), .second, .unset, .unset] [(.int (1 : Int32)), (.int (2 : Int32))])) rfl (by rw [hml]; rfl) (argsL := [(.int (2 : Int32)), (.int (1 : Int32))]) (rest := []) (lenOf pd_4 rfl) rfl (by show 2 * 0 + _ ≤ _; exact Nat.le_of_eq rfl) (hb hby at_197) (fun _ _ => ⟨rfl, e56, (by decide : 1 + 0 ≤ _), (by decide : 2 + 0 ≤ _)⟩)
      dsimp only [Pt.U, Pt.locs, Pt.cells, Pt.slots] at X57 l57 y57 z57 st57 hQ57
      subst l57 y57 z57
      obtain ⟨hv57, N57q, e57q⟩ := hQ57
      have N57 := Fr.app N56 N57q
      rw [show own_exp (2 : Int32) (1 : Int32) = (4602678819172646912 : UInt64) from by decide] at hv57
      subst hv57
      have e57 : T57.heap = hj37 := e57q
      have pre58 : ∀ tg, own_S p e below T57 m 229 #[iv p1, iv p2, iv (2 : Int32), rv b2, iv (1 : Int32), .val (.double (4602678819172646912 : UInt64)), .second, .val (.double (4602678819172646912 : UInt64)), .second] [(.int (1 : Int32))] tg → Steps p.tables e below (s₁.setTop (entryFrame m #[(.int p1), (.int p2)] maxLocals)) tg := fun tg k => pre46 tg (by
        show own_S p e below Tj37 m 147 #[iv p1, iv p2, iv (2 : Int32), rv b2, iv (1 : Int32), iv fz_2, .unset, .unset, .unset] [] _
        refine XS.aloadN Xj37.here hx rfl (hb hby at_147) rfl rfl ?_
        show own_S p e below Tj37 m 148 #[iv p1, iv p2, iv (2 : Int32), rv b2, iv (1 : Int32), iv fz_2, .unset, .unset, .unset] [(.ref b2)] _
        refine st53.trans ?_
        show own_S p e below T53 m 151 #[iv p1, iv p2, iv (2 : Int32), rv b2, iv (1 : Int32), iv fz_2, .unset, .unset, .unset] [(.double (4602678819172646912 : UInt64))] _
        refine XS.dstore X53.here hx rfl (hb hby at_151) rfl (l' := #[iv p1, iv p2, iv (2 : Int32), rv b2, iv (1 : Int32), .val (.double (4602678819172646912 : UInt64)), .second, .unset, .unset]) rfl ?_
        show own_S p e below T53 m 153 #[iv p1, iv p2, iv (2 : Int32), rv b2, iv (1 : Int32), .val (.double (4602678819172646912 : UInt64)), .second, .unset, .unset] [] _
        refine XS.aloadN X53.here hx rfl (hb hby at_153) rfl rfl ?_
        show own_S p e below T53 m 154 #[iv p1, iv p2, iv (2 : Int32), rv b2, iv (1 : Int32), .val (.double (4602678819172646912 : UInt64)), .second, .unset, .unset] [(.ref b2)] _
        refine st55.trans ?_
        show own_S p e below T55 m 157 #[iv p1, iv p2, iv (2 : Int32), rv b2, iv (1 : Int32), .val (.double (4602678819172646912 : UInt64)), .second, .unset, .unset] [(.long (2 : Int64))] _
        refine XS.iloadN X55.here hx rfl (hb hby at_157) rfl ?_
        show own_S p e below T55 m 158 #[iv p1, iv p2, iv (2 : Int32), rv b2, iv (1 : Int32), .val (.double (4602678819172646912 : UInt64)), .second, .unset, .unset] [(.int (2 : Int32)), (.long (2 : Int64))] _
        refine XS.i2l X55.here hx rfl (hb hby at_158) rfl ?_
        show own_S p e below T55 m 159 #[iv p1, iv p2, iv (2 : Int32), rv b2, iv (1 : Int32), .val (.double (4602678819172646912 : UInt64)), .second, .unset, .unset] [(.long ((2 : Int32).toInt64)), (.long (2 : Int64))] _
        refine XS.lcmp X55.here hx rfl (hb hby at_159) rfl ?_
        show own_S p e below T55 m 160 #[iv p1, iv p2, iv (2 : Int32), rv b2, iv (1 : Int32), .val (.double (4602678819172646912 : UInt64)), .second, .unset, .unset] [(.int (lcmpW (2 : Int64) ((2 : Int32).toInt64)))] _
        refine XS.ifNo X55.here hx rfl (hb hby at_160) rfl ((if0 _ _).trans (teq ((lw_eq _ _).mpr (by decide : (2 : Int64) = ((2 : Int32).toInt64)))).2) ?_
        show own_S p e below T55 m 163 #[iv p1, iv p2, iv (2 : Int32), rv b2, iv (1 : Int32), .val (.double (4602678819172646912 : UInt64)), .second, .unset, .unset] [] _
        refine XS.aloadN X55.here hx rfl (hb hby at_163) rfl rfl ?_
        show own_S p e below T55 m 164 #[iv p1, iv p2, iv (2 : Int32), rv b2, iv (1 : Int32), .val (.double (4602678819172646912 : UInt64)), .second, .unset, .unset] [(.ref b2)] _
        refine st56.trans ?_
        show own_S p e below T56 m 167 #[iv p1, iv p2, iv (2 : Int32), rv b2, iv (1 : Int32), .val (.double (4602678819172646912 : UInt64)), .second, .unset, .unset] [(.long (1 : Int64))] _
        refine XS.iload X56.here hx rfl (hb hby at_167) rfl ?_
        show own_S p e below T56 m 169 #[iv p1, iv p2, iv (2 : Int32), rv b2, iv (1 : Int32), .val (.double (4602678819172646912 : UInt64)), .second, .unset, .unset] [(.int (1 : Int32)), (.long (1 : Int64))] _
        refine XS.i2l X56.here hx rfl (hb hby at_169) rfl ?_
        show own_S p e below T56 m 170 #[iv p1, iv p2, iv (2 : Int32), rv b2, iv (1 : Int32), .val (.double (4602678819172646912 : UInt64)), .second, .unset, .unset] [(.long ((1 : Int32).toInt64)), (.long (1 : Int64))] _
        refine XS.lcmp X56.here hx rfl (hb hby at_170) rfl ?_
        show own_S p e below T56 m 171 #[iv p1, iv p2, iv (2 : Int32), rv b2, iv (1 : Int32), .val (.double (4602678819172646912 : UInt64)), .second, .unset, .unset] [(.int (lcmpW (1 : Int64) ((1 : Int32).toInt64)))] _
        refine XS.ifYes X56.here hx rfl (pc0 := 171) (pc' := 176) rfl (hb hby at_171) rfl ((if0 _ _).trans (teq ((lw_eq _ _).mpr (by decide : (1 : Int64) = ((1 : Int32).toInt64)))).1) (by decide) (by decide) ?_
        show own_S p e below T56 m 176 #[iv p1, iv p2, iv (2 : Int32), rv b2, iv (1 : Int32), .val (.double (4602678819172646912 : UInt64)), .second, .unset, .unset] [] _
        refine XS.iloadN X56.here hx rfl (hb hby at_176) rfl ?_
        show own_S p e below T56 m 177 #[iv p1, iv p2, iv (2 : Int32), rv b2, iv (1 : Int32), .val (.double (4602678819172646912 : UInt64)), .second, .unset, .unset] [(.int (2 : Int32))] _
        refine XS.ifYes X56.here hx rfl (pc0 := 177) (pc' := 194) rfl (hb hby at_177) rfl ((if0 _ _).trans (feq (by decide : ¬ ((2 : Int32) = (0 : Int32)))).2) (by decide) (by decide) ?_
        show own_S p e below T56 m 194 #[iv p1, iv p2, iv (2 : Int32), rv b2, iv (1 : Int32), .val (.double (4602678819172646912 : UInt64)), .second, .unset, .unset] [] _
        refine XS.iloadN X56.here hx rfl (hb hby at_194) rfl ?_
        show own_S p e below T56 m 195 #[iv p1, iv p2, iv (2 : Int32), rv b2, iv (1 : Int32), .val (.double (4602678819172646912 : UInt64)), .second, .unset, .unset] [(.int (2 : Int32))] _
        refine XS.iload X56.here hx rfl (hb hby at_195) rfl ?_
        show own_S p e below T56 m 197 #[iv p1, iv p2, iv (2 : Int32), rv b2, iv (1 : Int32), .val (.double (4602678819172646912 : UInt64)), .second, .unset, .unset] [(.int (1 : Int32)), (.int (2 : Int32))] _
        refine st57 _ ?_
        show own_S p e below T57 m 200 #[iv p1, iv p2, iv (2 : Int32), rv b2, iv (1 : Int32), .val (.double (4602678819172646912 : UInt64)), .second, .unset, .unset] [(.double (4602678819172646912 : UInt64))] _
        refine XS.dstore X57.here hx rfl (hb hby at_200) rfl (l' := #[iv p1, iv p2, iv (2 : Int32), rv b2, iv (1 : Int32), .val (.double (4602678819172646912 : UInt64)), .second, .val (.double (4602678819172646912 : UInt64)), .second]) rfl ?_
        show own_S p e below T57 m 202 #[iv p1, iv p2, iv (2 : Int32), rv b2, iv (1 : Int32), .val (.double (4602678819172646912 : UInt64)), .second, .val (.double (4602678819172646912 : UInt64)), .second] [] _
        refine XS.dload X57.here hx rfl (hb hby at_202) rfl ?_
        show own_S p e below T57 m 204 #[iv p1, iv p2, iv (2 : Int32), rv b2, iv (1 : Int32), .val (.double (4602678819172646912 : UInt64)), .second, .val (.double (4602678819172646912 : UInt64)), .second] [(.double (4602678819172646912 : UInt64))] _
        refine XS.dload X57.here hx rfl (hb hby at_204) rfl ?_
        show own_S p e below T57 m 206 #[iv p1, iv p2, iv (2 : Int32), rv b2, iv (1 : Int32), .val (.double (4602678819172646912 : UInt64)), .second, .val (.double (4602678819172646912 : UInt64)), .second] [(.double (4602678819172646912 : UInt64)), (.double (4602678819172646912 : UInt64))] _
        refine XS.dcmpS X57.here hx rfl (hb hby at_206) rfl (v := (0 : Int32)) (by decide +kernel) ?_
        show own_S p e below T57 m 207 #[iv p1, iv p2, iv (2 : Int32), rv b2, iv (1 : Int32), .val (.double (4602678819172646912 : UInt64)), .second, .val (.double (4602678819172646912 : UInt64)), .second] [(.int (0 : Int32))] _
        refine XS.ifNo X57.here hx rfl (hb hby at_207) rfl ((if0 _ _).trans (teq (by decide : (0 : Int32) = (0 : Int32))).2) ?_
        show own_S p e below T57 m 210 #[iv p1, iv p2, iv (2 : Int32), rv b2, iv (1 : Int32), .val (.double (4602678819172646912 : UInt64)), .second, .val (.double (4602678819172646912 : UInt64)), .second] [] _
        refine XS.dconst0 X57.here hx rfl (hb hby at_210) (v := (0 : UInt64)) rfl ?_
        show own_S p e below T57 m 211 #[iv p1, iv p2, iv (2 : Int32), rv b2, iv (1 : Int32), .val (.double (4602678819172646912 : UInt64)), .second, .val (.double (4602678819172646912 : UInt64)), .second] [(.double (0 : UInt64))] _
        refine XS.dload X57.here hx rfl (hb hby at_211) rfl ?_
        show own_S p e below T57 m 213 #[iv p1, iv p2, iv (2 : Int32), rv b2, iv (1 : Int32), .val (.double (4602678819172646912 : UInt64)), .second, .val (.double (4602678819172646912 : UInt64)), .second] [(.double (4602678819172646912 : UInt64)), (.double (0 : UInt64))] _
        refine XS.dcmpS X57.here hx rfl (hb hby at_213) rfl (v := (-1 : Int32)) (by decide +kernel) ?_
        show own_S p e below T57 m 214 #[iv p1, iv p2, iv (2 : Int32), rv b2, iv (1 : Int32), .val (.double (4602678819172646912 : UInt64)), .second, .val (.double (4602678819172646912 : UInt64)), .second] [(.int (-1 : Int32))] _
        refine XS.ifNo X57.here hx rfl (hb hby at_214) rfl ((if0 _ _).trans (flt (by decide : ¬ ((0 : Int32) < (-1 : Int32)))).2.2.1) ?_
        show own_S p e below T57 m 217 #[iv p1, iv p2, iv (2 : Int32), rv b2, iv (1 : Int32), .val (.double (4602678819172646912 : UInt64)), .second, .val (.double (4602678819172646912 : UInt64)), .second] [] _
        refine XS.dload X57.here hx rfl (hb hby at_217) rfl ?_
        show own_S p e below T57 m 219 #[iv p1, iv p2, iv (2 : Int32), rv b2, iv (1 : Int32), .val (.double (4602678819172646912 : UInt64)), .second, .val (.double (4602678819172646912 : UInt64)), .second] [(.double (4602678819172646912 : UInt64))] _
        refine XS.dconst1 X57.here hx rfl (hb hby at_219) (v := (4607182418800017408 : UInt64)) rfl ?_
        show own_S p e below T57 m 220 #[iv p1, iv p2, iv (2 : Int32), rv b2, iv (1 : Int32), .val (.double (4602678819172646912 : UInt64)), .second, .val (.double (4602678819172646912 : UInt64)), .second] [(.double (4607182418800017408 : UInt64)), (.double (4602678819172646912 : UInt64))] _
        refine XS.dcmpS X57.here hx rfl (hb hby at_220) rfl (v := (-1 : Int32)) (by decide +kernel) ?_
        show own_S p e below T57 m 221 #[iv p1, iv p2, iv (2 : Int32), rv b2, iv (1 : Int32), .val (.double (4602678819172646912 : UInt64)), .second, .val (.double (4602678819172646912 : UInt64)), .second] [(.int (-1 : Int32))] _
        refine XS.ifNo X57.here hx rfl (hb hby at_221) rfl ((if0 _ _).trans (flt (by decide : ¬ ((0 : Int32) < (-1 : Int32)))).2.2.1) ?_
        show own_S p e below T57 m 224 #[iv p1, iv p2, iv (2 : Int32), rv b2, iv (1 : Int32), .val (.double (4602678819172646912 : UInt64)), .second, .val (.double (4602678819172646912 : UInt64)), .second] [] _
        refine XS.iconst X57.here hx rfl (hb hby at_224) ?_
        show own_S p e below T57 m 225 #[iv p1, iv p2, iv (2 : Int32), rv b2, iv (1 : Int32), .val (.double (4602678819172646912 : UInt64)), .second, .val (.double (4602678819172646912 : UInt64)), .second] [(.int (1 : Int32))] _
        refine XS.goto X57.here hx rfl (pc0 := 225) (pc' := 229) rfl (hb hby at_225) (by decide) (by decide) ?_
        exact k)
      obtain ⟨fs, hr, hrun, hended, hW, hsame⟩ := X57.leave (v := some (.int (nar .boolean (1 : Int32)))) (fun h => by rw [Bd.returns] at h; cases h)
      refine ⟨_, _, pre58 _ ?_, hrun, hended, _, _, rfl, ?_, ⟨_, rfl⟩, hW, hsame.mono (by decide) (by decide)⟩
      · show own_S p e below T57 m 229 #[iv p1, iv p2, iv (2 : Int32), rv b2, iv (1 : Int32), .val (.double (4602678819172646912 : UInt64)), .second, .val (.double (4602678819172646912 : UInt64)), .second] [(.int (1 : Int32))] _
        exact retN X57 hx (t := .boolean) Bd.returns (by simp) (hb hby at_229) hr
      · show Q0 Z p1 p2 h0 n0 _ T57.heap _
        rw [e57]
        exact ⟨rfl, N57⟩
    ·  -- case
      have Zs60 : n0 ≤ hj37.size := (Nat.le_trans (Nat.le_trans Zs4 Kj30.1) Kj37.1)
      obtain ⟨cq59, kq59, q59a, q59b, q59c⟩ := isOf hZ ej37 Fj37_0
      obtain ⟨_, _, ⟨T59, L59, k59, n59⟩, -, X59, ⟨Lc59, hQ59, l59, y59, z59⟩, st59⟩ := Xj37.virtualBack hx (y := (⟨"com/example/clockwright/clockwright/mcmc/Acceptance", "rate", "()D"⟩ : MethodName)) (z := (⟨"com/example/clockwright/clockwright/mcmc/Acceptance", "rate", "()D"⟩ : MethodName)) hown (mvT hZ (hw _ (List.mem_of_getElem? (i := 10) rfl))) (mvT hZ (hw _ (List.mem_of_getElem? (i := 11) rfl))) (notFace_of_selects (args := #[]) (mvT hZ (hw _ (List.mem_of_getElem? (i := 13) rfl)))) (mvT hZ (hw _ (List.mem_of_getElem? (i := 13) rfl))) (mvT hZ (hw _ (List.mem_of_getElem? (i := 12) rfl))) (by decide) (backOf (W := 0) (rmR1 l Z a0 hw [] b2 (2 : Int64) (2 : Int64) hj37 n0 Zs60 Fj37_1 Fj37_2 (by decide) (by unfold Jvm.Free.Fl.NoNaN64; decide +kernel)) hZ (hw _ (List.mem_of_getElem? (i := 14) rfl)) (hw _ (List.mem_of_getElem? (i := 3) rfl)) (by decide) (by decide)) q59a q59c (g := (mkF m 148 #[iv p1, iv p2, iv (2 : Int32), rv b2, iv (2 : Int32), iv fz_2, .unset, .unset, .unset] [(.ref b2)])) rfl (by rw [hml]; rfl) (Steps.refl _) (argsL := []) (rest := []) (lenOf pd_1 rfl) rfl (by show 2 * 0 + _ ≤ _; exact Nat.le_of_eq rfl) (hb hby at_148) (fun _ _ => ⟨rfl, ej37, (by decide : 1 + 0 ≤ _), (by decide : 2 + 0 ≤ _)⟩)
      dsimp only [Pt.U, Pt.locs, Pt.cells, Pt.slots] at X59 l59 y59 z59 st59 hQ59
      subst l59 y59 z59
      obtain ⟨hv59, N59q, e59q⟩ := hQ59
      have N59 := Fr.app Nj37 N59q
      rw [show FP.ddiv (FP.l2d (2 : Int64)) (FP.l2d (2 : Int64)) = (4607182418800017408 : UInt64) from by decide +kernel] at hv59
      subst hv59
      have e59 : T59.heap = hj37 := e59q
      obtain ⟨cq61, kq61, q61a, q61b, q61c⟩ := isOf hZ e59 Fj37_0
      obtain ⟨_, _, ⟨T61, L61, k61, n61⟩, -, X61, ⟨Lc61, hQ61, l61, y61, z61⟩, st61⟩ := X59.virtualBack hx (y := (⟨"com/example/clockwright/clockwright/mcmc/Acceptance", "proposals", "()J"⟩ : MethodName)) (z := (⟨"com/example/clockwright/clockwright/mcmc/Acceptance", "proposals", "()J"⟩ : MethodName)) hown (mvT hZ (hw _ (List.mem_of_getElem? (i := 18) rfl))) (mvT hZ (hw _ (List.mem_of_getElem? (i := 19) rfl))) (notFace_of_selects (args := #[]) (mvT hZ (hw _ (List.mem_of_getElem? (i := 21) rfl)))) (mvT hZ (hw _ (List.mem_of_getElem? (i := 21) rfl))) (mvT hZ (hw _ (List.mem_of_getElem? (i := 20) rfl))) (by decide) (backOf (W := 0) (rm4 l Z a0 hw [] b2 (2 : Int64) hj37 n0 Zs60 Fj37_1) hZ (hw _ (List.mem_of_getElem? (i := 22) rfl)) (hw _ (List.mem_of_getElem? (i := 3) rfl)) (by decide) (by decide)) q61a q61c (g := (mkF m 154 #[iv p1, iv p2, iv (2 : Int32), rv b2, iv (2 : Int32), .val (.double (4607182418800017408 : UInt64)), .second, .unset, .unset] [(.ref b2)])) rfl (by rw [hml]; rfl) (Steps.refl _) (argsL := []) (rest := []) (lenOf pd_2 rfl) rfl (by show 2 * 0 + _ ≤ _; exact Nat.le_of_eq rfl) (hb hby at_154) (fun _ _ => ⟨rfl, e59, (by decide : 1 + 0 ≤ _), (by decide : 2 + 0 ≤ _)⟩)
      dsimp only [Pt.U, Pt.locs, Pt.cells, Pt.slots] at X61 l61 y61 z61 st61 hQ61
      subst l61 y61 z61
      obtain ⟨rfl, N61q, e61q⟩ := hQ61
      have N61 := Fr.app N59 N61q
      have e61 : T61.heap = hj37 := e61q
      obtain ⟨cq62, kq62, q62a, q62b, q62c⟩ := isOf hZ e61 Fj37_0
      obtain ⟨_, _, ⟨T62, L62, k62, n62⟩, -, X62, ⟨Lc62, hQ62, l62, y62, z62⟩, st62⟩ := X61.virtualBack hx (y := (⟨"com/example/clockwright/clockwright/mcmc/Acceptance", "accepted", "()J"⟩ : MethodName)) (z := (⟨"com/example/clockwright/clockwright/mcmc/Acceptance", "accepted", "()J"⟩ : MethodName)) hown (mvT hZ (hw _ (List.mem_of_getElem? (i := 23) rfl))) (mvT hZ (hw _ (List.mem_of_getElem? (i := 24) rfl))) (notFace_of_selects (args := #[]) (mvT hZ (hw _ (List.mem_of_getElem? (i := 26) rfl)))) (mvT hZ (hw _ (List.mem_of_getElem? (i := 26) rfl))) (mvT hZ (hw _ (List.mem_of_getElem? (i := 25) rfl))) (by decide) (backOf (W := 0) (rm5 l Z a0 hw [] b2 (2 : Int64) hj37 n0 Zs60 Fj37_2) hZ (hw _ (List.mem_of_getElem? (i := 27) rfl)) (hw _ (List.mem_of_getElem? (i := 3) rfl)) (by decide) (by decide)) q62a q62c (g := (mkF m 164 #[iv p1, iv p2, iv (2 : Int32), rv b2, iv (2 : Int32), .val (.double (4607182418800017408 : UInt64)), .second, .unset, .unset] [(.ref b2)])) rfl (by rw [hml]; rfl) (Steps.refl _) (argsL := []) (rest := []) (lenOf pd_2 rfl) rfl (by show 2 * 0 + _ ≤ _; exact Nat.le_of_eq rfl) (hb hby at_164) (fun _ _ => ⟨rfl, e61, (by decide : 1 + 0 ≤ _), (by decide : 2 + 0 ≤ _)⟩)
      dsimp only [Pt.U, Pt.locs, Pt.cells, Pt.slots] at X62 l62 y62 z62 st62 hQ62
      subst l62 y62 z62
      obtain ⟨rfl, N62q, e62q⟩ := hQ62
      have N62 := Fr.app N61 N62q
      have e62 : T62.heap = hj37 := e62q
      obtain ⟨_, _, ⟨T63, L63, k63, n63⟩, -, X63, ⟨Lc63, hQ63, l63, y63, z63⟩, st63⟩ := Jvm.LawKit.callS X62 hx (y := (⟨"com/example/clockwright/clockwright/mcmc/AcceptanceRatePinLaw", "expected", "(II)D"⟩ : MethodName)) hown (mvT hZ (hw _ (List.mem_of_getElem? (i := 35) rfl))) (mvT hZ (hw _ (List.mem_of_getElem? (i := 36) rfl))) (mvT hZ (hw _ (List.mem_of_getElem? (i := 37) rfl))) (mvT hZ (hw _ (List.mem_of_getElem? (i := 38) rfl))) (by decide) (backOf (W := 0) (rm7 l Z a0 hw [] (2 : Int32) (2 : Int32) hj37 n0 Zs60 ) hZ (hw _ (List.mem_of_getElem? (i := 38) rfl)) (hw _ (List.mem_of_getElem? (i := 37) rfl)) (by decide) (by decide)) (g := (mkF m 197 #[iv p1, iv p2, iv (2 : Int32), rv b2, iv (2 : Int32), .val (.double (4607182418800017408 : UInt64)), .second, .unset, .unset] [(.int (2 : Int32)), (.int (2 : Int32))])) rfl (by rw [hml]; rfl) (argsL := [(.int (2 : Int32)), (.int (2 : Int32))]) (rest := []) (lenOf pd_4 rfl) rfl (by show 2 * 0 + _ ≤ _; exact Nat.le_of_eq rfl) (hb hby at_197) (fun _ _ => ⟨rfl, e62, (by decide : 1 + 0 ≤ _), (by decide : 2 + 0 ≤ _)⟩)
      dsimp only [Pt.U, Pt.locs, Pt.cells, Pt.slots] at X63 l63 y63 z63 st63 hQ63
      subst l63 y63 z63
      obtain ⟨hv63, N63q, e63q⟩ := hQ63
      have N63 := Fr.app N62 N63q
      rw [show own_exp (2 : Int32) (2 : Int32) = (4607182418800017408 : UInt64) from by decide] at hv63
      subst hv63
      have e63 : T63.heap = hj37 := e63q
      have pre64 : ∀ tg, own_S p e below T63 m 229 #[iv p1, iv p2, iv (2 : Int32), rv b2, iv (2 : Int32), .val (.double (4607182418800017408 : UInt64)), .second, .val (.double (4607182418800017408 : UInt64)), .second] [(.int (1 : Int32))] tg → Steps p.tables e below (s₁.setTop (entryFrame m #[(.int p1), (.int p2)] maxLocals)) tg := fun tg k => pre46 tg (by
        show own_S p e below Tj37 m 147 #[iv p1, iv p2, iv (2 : Int32), rv b2, iv (2 : Int32), iv fz_2, .unset, .unset, .unset] [] _
        refine XS.aloadN Xj37.here hx rfl (hb hby at_147) rfl rfl ?_
        show own_S p e below Tj37 m 148 #[iv p1, iv p2, iv (2 : Int32), rv b2, iv (2 : Int32), iv fz_2, .unset, .unset, .unset] [(.ref b2)] _
        refine st59.trans ?_
        show own_S p e below T59 m 151 #[iv p1, iv p2, iv (2 : Int32), rv b2, iv (2 : Int32), iv fz_2, .unset, .unset, .unset] [(.double (4607182418800017408 : UInt64))] _
        refine XS.dstore X59.here hx rfl (hb hby at_151) rfl (l' := #[iv p1, iv p2, iv (2 : Int32), rv b2, iv (2 : Int32), .val (.double (4607182418800017408 : UInt64)), .second, .unset, .unset]) rfl ?_
        show own_S p e below T59 m 153 #[iv p1, iv p2, iv (2 : Int32), rv b2, iv (2 : Int32), .val (.double (4607182418800017408 : UInt64)), .second, .unset, .unset] [] _
        refine XS.aloadN X59.here hx rfl (hb hby at_153) rfl rfl ?_
        show own_S p e below T59 m 154 #[iv p1, iv p2, iv (2 : Int32), rv b2, iv (2 : Int32), .val (.double (4607182418800017408 : UInt64)), .second, .unset, .unset] [(.ref b2)] _
        refine st61.trans ?_
        show own_S p e below T61 m 157 #[iv p1, iv p2, iv (2 : Int32), rv b2, iv (2 : Int32), .val (.double (4607182418800017408 : UInt64)), .second, .unset, .unset] [(.long (2 : Int64))] _
        refine XS.iloadN X61.here hx rfl (hb hby at_157) rfl ?_
        show own_S p e below T61 m 158 #[iv p1, iv p2, iv (2 : Int32), rv b2, iv (2 : Int32), .val (.double (4607182418800017408 : UInt64)), .second, .unset, .unset] [(.int (2 : Int32)), (.long (2 : Int64))] _
        refine XS.i2l X61.here hx rfl (hb hby at_158) rfl ?_
        show own_S p e below T61 m 159 #[iv p1, iv p2, iv (2 : Int32), rv b2, iv (2 : Int32), .val (.double (4607182418800017408 : UInt64)), .second, .unset, .unset] [(.long ((2 : Int32).toInt64)), (.long (2 : Int64))] _
        refine XS.lcmp X61.here hx rfl (hb hby at_159) rfl ?_
        show own_S p e below T61 m 160 #[iv p1, iv p2, iv (2 : Int32), rv b2, iv (2 : Int32), .val (.double (4607182418800017408 : UInt64)), .second, .unset, .unset] [(.int (lcmpW (2 : Int64) ((2 : Int32).toInt64)))] _
        refine XS.ifNo X61.here hx rfl (hb hby at_160) rfl ((if0 _ _).trans (teq ((lw_eq _ _).mpr (by decide : (2 : Int64) = ((2 : Int32).toInt64)))).2) ?_
        show own_S p e below T61 m 163 #[iv p1, iv p2, iv (2 : Int32), rv b2, iv (2 : Int32), .val (.double (4607182418800017408 : UInt64)), .second, .unset, .unset] [] _
        refine XS.aloadN X61.here hx rfl (hb hby at_163) rfl rfl ?_
        show own_S p e below T61 m 164 #[iv p1, iv p2, iv (2 : Int32), rv b2, iv (2 : Int32), .val (.double (4607182418800017408 : UInt64)), .second, .unset, .unset] [(.ref b2)] _
        refine st62.trans ?_
        show own_S p e below T62 m 167 #[iv p1, iv p2, iv (2 : Int32), rv b2, iv (2 : Int32), .val (.double (4607182418800017408 : UInt64)), .second, .unset, .unset] [(.long (2 : Int64))] _
        refine XS.iload X62.here hx rfl (hb hby at_167) rfl ?_
        show own_S p e below T62 m 169 #[iv p1, iv p2, iv (2 : Int32), rv b2, iv (2 : Int32), .val (.double (4607182418800017408 : UInt64)), .second, .unset, .unset] [(.int (2 : Int32)), (.long (2 : Int64))] _
        refine XS.i2l X62.here hx rfl (hb hby at_169) rfl ?_
        show own_S p e below T62 m 170 #[iv p1, iv p2, iv (2 : Int32), rv b2, iv (2 : Int32), .val (.double (4607182418800017408 : UInt64)), .second, .unset, .unset] [(.long ((2 : Int32).toInt64)), (.long (2 : Int64))] _
        refine XS.lcmp X62.here hx rfl (hb hby at_170) rfl ?_
        show own_S p e below T62 m 171 #[iv p1, iv p2, iv (2 : Int32), rv b2, iv (2 : Int32), .val (.double (4607182418800017408 : UInt64)), .second, .unset, .unset] [(.int (lcmpW (2 : Int64) ((2 : Int32).toInt64)))] _
        refine XS.ifYes X62.here hx rfl (pc0 := 171) (pc' := 176) rfl (hb hby at_171) rfl ((if0 _ _).trans (teq ((lw_eq _ _).mpr (by decide : (2 : Int64) = ((2 : Int32).toInt64)))).1) (by decide) (by decide) ?_
        show own_S p e below T62 m 176 #[iv p1, iv p2, iv (2 : Int32), rv b2, iv (2 : Int32), .val (.double (4607182418800017408 : UInt64)), .second, .unset, .unset] [] _
        refine XS.iloadN X62.here hx rfl (hb hby at_176) rfl ?_
        show own_S p e below T62 m 177 #[iv p1, iv p2, iv (2 : Int32), rv b2, iv (2 : Int32), .val (.double (4607182418800017408 : UInt64)), .second, .unset, .unset] [(.int (2 : Int32))] _
        refine XS.ifYes X62.here hx rfl (pc0 := 177) (pc' := 194) rfl (hb hby at_177) rfl ((if0 _ _).trans (feq (by decide : ¬ ((2 : Int32) = (0 : Int32)))).2) (by decide) (by decide) ?_
        show own_S p e below T62 m 194 #[iv p1, iv p2, iv (2 : Int32), rv b2, iv (2 : Int32), .val (.double (4607182418800017408 : UInt64)), .second, .unset, .unset] [] _
        refine XS.iloadN X62.here hx rfl (hb hby at_194) rfl ?_
        show own_S p e below T62 m 195 #[iv p1, iv p2, iv (2 : Int32), rv b2, iv (2 : Int32), .val (.double (4607182418800017408 : UInt64)), .second, .unset, .unset] [(.int (2 : Int32))] _
        refine XS.iload X62.here hx rfl (hb hby at_195) rfl ?_
        show own_S p e below T62 m 197 #[iv p1, iv p2, iv (2 : Int32), rv b2, iv (2 : Int32), .val (.double (4607182418800017408 : UInt64)), .second, .unset, .unset] [(.int (2 : Int32)), (.int (2 : Int32))] _
        refine st63 _ ?_
        show own_S p e below T63 m 200 #[iv p1, iv p2, iv (2 : Int32), rv b2, iv (2 : Int32), .val (.double (4607182418800017408 : UInt64)), .second, .unset, .unset] [(.double (4607182418800017408 : UInt64))] _
        refine XS.dstore X63.here hx rfl (hb hby at_200) rfl (l' := #[iv p1, iv p2, iv (2 : Int32), rv b2, iv (2 : Int32), .val (.double (4607182418800017408 : UInt64)), .second, .val (.double (4607182418800017408 : UInt64)), .second]) rfl ?_
        show own_S p e below T63 m 202 #[iv p1, iv p2, iv (2 : Int32), rv b2, iv (2 : Int32), .val (.double (4607182418800017408 : UInt64)), .second, .val (.double (4607182418800017408 : UInt64)), .second] [] _
        refine XS.dload X63.here hx rfl (hb hby at_202) rfl ?_
        show own_S p e below T63 m 204 #[iv p1, iv p2, iv (2 : Int32), rv b2, iv (2 : Int32), .val (.double (4607182418800017408 : UInt64)), .second, .val (.double (4607182418800017408 : UInt64)), .second] [(.double (4607182418800017408 : UInt64))] _
        refine XS.dload X63.here hx rfl (hb hby at_204) rfl ?_
        show own_S p e below T63 m 206 #[iv p1, iv p2, iv (2 : Int32), rv b2, iv (2 : Int32), .val (.double (4607182418800017408 : UInt64)), .second, .val (.double (4607182418800017408 : UInt64)), .second] [(.double (4607182418800017408 : UInt64)), (.double (4607182418800017408 : UInt64))] _
        refine XS.dcmpS X63.here hx rfl (hb hby at_206) rfl (v := (0 : Int32)) (by decide +kernel) ?_
        show own_S p e below T63 m 207 #[iv p1, iv p2, iv (2 : Int32), rv b2, iv (2 : Int32), .val (.double (4607182418800017408 : UInt64)), .second, .val (.double (4607182418800017408 : UInt64)), .second] [(.int (0 : Int32))] _
        refine XS.ifNo X63.here hx rfl (hb hby at_207) rfl ((if0 _ _).trans (teq (by decide : (0 : Int32) = (0 : Int32))).2) ?_
        show own_S p e below T63 m 210 #[iv p1, iv p2, iv (2 : Int32), rv b2, iv (2 : Int32), .val (.double (4607182418800017408 : UInt64)), .second, .val (.double (4607182418800017408 : UInt64)), .second] [] _
        refine XS.dconst0 X63.here hx rfl (hb hby at_210) (v := (0 : UInt64)) rfl ?_
        show own_S p e below T63 m 211 #[iv p1, iv p2, iv (2 : Int32), rv b2, iv (2 : Int32), .val (.double (4607182418800017408 : UInt64)), .second, .val (.double (4607182418800017408 : UInt64)), .second] [(.double (0 : UInt64))] _
        refine XS.dload X63.here hx rfl (hb hby at_211) rfl ?_
        show own_S p e below T63 m 213 #[iv p1, iv p2, iv (2 : Int32), rv b2, iv (2 : Int32), .val (.double (4607182418800017408 : UInt64)), .second, .val (.double (4607182418800017408 : UInt64)), .second] [(.double (4607182418800017408 : UInt64)), (.double (0 : UInt64))] _
        refine XS.dcmpS X63.here hx rfl (hb hby at_213) rfl (v := (-1 : Int32)) (by decide +kernel) ?_
        show own_S p e below T63 m 214 #[iv p1, iv p2, iv (2 : Int32), rv b2, iv (2 : Int32), .val (.double (4607182418800017408 : UInt64)), .second, .val (.double (4607182418800017408 : UInt64)), .second] [(.int (-1 : Int32))] _
        refine XS.ifNo X63.here hx rfl (hb hby at_214) rfl ((if0 _ _).trans (flt (by decide : ¬ ((0 : Int32) < (-1 : Int32)))).2.2.1) ?_
        show own_S p e below T63 m 217 #[iv p1, iv p2, iv (2 : Int32), rv b2, iv (2 : Int32), .val (.double (4607182418800017408 : UInt64)), .second, .val (.double (4607182418800017408 : UInt64)), .second] [] _
        refine XS.dload X63.here hx rfl (hb hby at_217) rfl ?_
        show own_S p e below T63 m 219 #[iv p1, iv p2, iv (2 : Int32), rv b2, iv (2 : Int32), .val (.double (4607182418800017408 : UInt64)), .second, .val (.double (4607182418800017408 : UInt64)), .second] [(.double (4607182418800017408 : UInt64))] _
        refine XS.dconst1 X63.here hx rfl (hb hby at_219) (v := (4607182418800017408 : UInt64)) rfl ?_
        show own_S p e below T63 m 220 #[iv p1, iv p2, iv (2 : Int32), rv b2, iv (2 : Int32), .val (.double (4607182418800017408 : UInt64)), .second, .val (.double (4607182418800017408 : UInt64)), .second] [(.double (4607182418800017408 : UInt64)), (.double (4607182418800017408 : UInt64))] _
        refine XS.dcmpS X63.here hx rfl (hb hby at_220) rfl (v := (0 : Int32)) (by decide +kernel) ?_
        show own_S p e below T63 m 221 #[iv p1, iv p2, iv (2 : Int32), rv b2, iv (2 : Int32), .val (.double (4607182418800017408 : UInt64)), .second, .val (.double (4607182418800017408 : UInt64)), .second] [(.int (0 : Int32))] _
        refine XS.ifNo X63.here hx rfl (hb hby at_221) rfl ((if0 _ _).trans (flt (by decide : ¬ ((0 : Int32) < (0 : Int32)))).2.2.1) ?_
        show own_S p e below T63 m 224 #[iv p1, iv p2, iv (2 : Int32), rv b2, iv (2 : Int32), .val (.double (4607182418800017408 : UInt64)), .second, .val (.double (4607182418800017408 : UInt64)), .second] [] _
        refine XS.iconst X63.here hx rfl (hb hby at_224) ?_
        show own_S p e below T63 m 225 #[iv p1, iv p2, iv (2 : Int32), rv b2, iv (2 : Int32), .val (.double (4607182418800017408 : UInt64)), .second, .val (.double (4607182418800017408 : UInt64)), .second] [(.int (1 : Int32))] _
        refine XS.goto X63.here hx rfl (pc0 := 225) (pc' := 229) rfl (hb hby at_225) (by decide) (by decide) ?_
        exact k)
      obtain ⟨fs, hr, hrun, hended, hW, hsame⟩ := X63.leave (v := some (.int (nar .boolean (1 : Int32)))) (fun h => by rw [Bd.returns] at h; cases h)
      refine ⟨_, _, pre64 _ ?_, hrun, hended, _, _, rfl, ?_, ⟨_, rfl⟩, hW, hsame.mono (by decide) (by decide)⟩
      · show own_S p e below T63 m 229 #[iv p1, iv p2, iv (2 : Int32), rv b2, iv (2 : Int32), .val (.double (4607182418800017408 : UInt64)), .second, .val (.double (4607182418800017408 : UInt64)), .second] [(.int (1 : Int32))] _
        exact retN X63 hx (t := .boolean) Bd.returns (by simp) (hb hby at_229) hr
      · show Q0 Z p1 p2 h0 n0 _ T63.heap _
        rw [e63]
        exact ⟨rfl, N63⟩
  ·  -- case
    obtain ⟨Tj65, hj65, Lj65, Xj65, ej65, Nj65, Kj65, a_1, A_1, fz_1, h_a_1, Fj65_0, Fj65_1, Fj65_2, prej65⟩ : ∃ (Tj : State) (hj : Heap) (Lj : List Loc), Stand p l e room_1 s m #[(.int p1), (.int p2)] below meth c Tj Lj 1 2 ∧ Tj.heap = hj ∧ Fr n0 Lj ∧ Keep h2 hj [b2] ∧ ∃ a_1 : Int32, ∃ A_1 : Int64, ∃ fz_1 : Int32, ((a_1 = 0 ∧ A_1 = 0) ∨ (a_1 = 1 ∧ A_1 = 1)) ∧ (Exa Z hj b2 "com/example/clockwright/clockwright/mcmc/Acceptance") ∧ (Fld Z hj b2 "com/example/clockwright/clockwright/mcmc/Acceptance" "proposals" "J" (.long (1 : Int64))) ∧ (Fld Z hj b2 "com/example/clockwright/clockwright/mcmc/Acceptance" "accepted" "J" (.long A_1)) ∧ ∀ tg, own_S p e below Tj m 50 #[iv p1, iv p2, iv (3 : Int32), rv b2, iv a_1, iv fz_1, .unset, .unset, .unset] [] tg → Steps p.tables e below (s₁.setTop (entryFrame m #[(.int p1), (.int p2)] maxLocals)) tg := by
      have pre67 : ∀ tg, own_S p e below T3 m 26 #[iv p1, iv p2, iv (3 : Int32), rv b2, iv (0 : Int32), .unset, .unset, .unset, .unset] [(.int (p2 &&& (1 : Int32)))] tg → Steps p.tables e below (s₁.setTop (entryFrame m #[(.int p1), (.int p2)] maxLocals)) tg := fun tg k => pre5 tg (by
        show own_S p e below T3 m 18 #[iv p1, iv p2, iv (3 : Int32), rv b2, iv (0 : Int32), .unset, .unset, .unset, .unset] [] _
        refine XS.iloadN X3.here hx rfl (hb hby at_18) rfl ?_
        show own_S p e below T3 m 19 #[iv p1, iv p2, iv (3 : Int32), rv b2, iv (0 : Int32), .unset, .unset, .unset, .unset] [(.int (3 : Int32))] _
        refine XS.iconst X3.here hx rfl (hb hby at_19) ?_
        show own_S p e below T3 m 20 #[iv p1, iv p2, iv (3 : Int32), rv b2, iv (0 : Int32), .unset, .unset, .unset, .unset] [(.int (1 : Int32)), (.int (3 : Int32))] _
        refine XS.icmpNo X3.here hx rfl (hb hby at_20) rfl (flt (by decide : ¬ ((3 : Int32) < (1 : Int32)))).1 ?_
        show own_S p e below T3 m 23 #[iv p1, iv p2, iv (3 : Int32), rv b2, iv (0 : Int32), .unset, .unset, .unset, .unset] [] _
        refine XS.iloadN X3.here hx rfl (hb hby at_23) rfl ?_
        show own_S p e below T3 m 24 #[iv p1, iv p2, iv (3 : Int32), rv b2, iv (0 : Int32), .unset, .unset, .unset, .unset] [(.int p2)] _
        refine XS.iconst X3.here hx rfl (hb hby at_24) ?_
        show own_S p e below T3 m 25 #[iv p1, iv p2, iv (3 : Int32), rv b2, iv (0 : Int32), .unset, .unset, .unset, .unset] [(.int (1 : Int32)), (.int p2)] _
        refine XS.iand X3.here hx rfl (hb hby at_25) rfl ?_
        exact k)
      by_cases hc26_66 : (p2 &&& (1 : Int32)) = (0 : Int32)
      ·  -- pc 26 yes
        obtain ⟨cq68, kq68, q68a, q68b, q68c⟩ := isOf hZ e3 A2
        obtain ⟨_, _, ⟨T68, L68, k68, n68⟩, -, X68, ⟨Lc68, hQ68, l68, y68, z68⟩, st68⟩ := X3.virtualBack hx (y := (⟨"com/example/clockwright/clockwright/mcmc/Acceptance", "count", "(Z)V"⟩ : MethodName)) (z := (⟨"com/example/clockwright/clockwright/mcmc/Acceptance", "count", "(Z)V"⟩ : MethodName)) hown (mvT hZ (hw _ (List.mem_of_getElem? (i := 30) rfl))) (mvT hZ (hw _ (List.mem_of_getElem? (i := 31) rfl))) (notFace_of_selects (args := #[]) (mvT hZ (hw _ (List.mem_of_getElem? (i := 33) rfl)))) (mvT hZ (hw _ (List.mem_of_getElem? (i := 33) rfl))) (mvT hZ (hw _ (List.mem_of_getElem? (i := 32) rfl))) (by decide) (backOf (W := 0) (rm6 l Z a0 hw [] b2 (0 : Int32) (0 : Int64) (0 : Int64) h2 n0 Zs4 A2 g_b2 F_proposals_b2 F_accepted_b2) hZ (hw _ (List.mem_of_getElem? (i := 34) rfl)) (hw _ (List.mem_of_getElem? (i := 3) rfl)) (by decide) (by decide)) q68a q68c (g := (mkF m 39 #[iv p1, iv p2, iv (3 : Int32), rv b2, iv (0 : Int32), iv (0 : Int32), .unset, .unset, .unset] [(.int (0 : Int32)), (.ref b2)])) rfl (by rw [hml]; rfl) (Steps.refl _) (argsL := [(.int (0 : Int32))]) (rest := []) (lenOf pd_3 rfl) rfl (by show 2 * 0 + _ ≤ _; exact Nat.le_of_eq rfl) (hb hby at_39) (fun _ _ => ⟨rfl, e3, (by decide : 1 + 0 ≤ _), (by decide : 2 + 0 ≤ _)⟩)
        dsimp only [Pt.U, Pt.locs, Pt.cells, Pt.slots] at X68 l68 y68 z68 st68 hQ68
        subst l68 y68 z68
        obtain ⟨rfl, N68q, K68, E68c, Fp68, Fa68⟩ := hQ68
        have N68 := Fr.app N3 N68q
        rw [show ((0 : Int64) + (1 : Int64)) = (1 : Int64) from by decide] at Fp68
        rw [show ((0 : Int64) + own_one (0 : Int32)) = (0 : Int64) from by simp [own_one]] at Fa68
        have pre69 : ∀ tg, own_S p e below T68 m 50 #[iv p1, iv p2, iv (3 : Int32), rv b2, iv (0 : Int32), iv (0 : Int32), .unset, .unset, .unset] [] tg → Steps p.tables e below (s₁.setTop (entryFrame m #[(.int p1), (.int p2)] maxLocals)) tg := fun tg k => pre67 tg (by
          show own_S p e below T3 m 26 #[iv p1, iv p2, iv (3 : Int32), rv b2, iv (0 : Int32), .unset, .unset, .unset, .unset] [(.int (p2 &&& (1 : Int32)))] _
          refine XS.ifYes X3.here hx rfl (pc0 := 26) (pc' := 33) rfl (hb hby at_26) rfl ((if0 _ _).trans (teq hc26_66).1) (by decide) (by decide) ?_
          show own_S p e below T3 m 33 #[iv p1, iv p2, iv (3 : Int32), rv b2, iv (0 : Int32), .unset, .unset, .unset, .unset] [] _
          refine XS.iconst X3.here hx rfl (hb hby at_33) ?_
          show own_S p e below T3 m 34 #[iv p1, iv p2, iv (3 : Int32), rv b2, iv (0 : Int32), .unset, .unset, .unset, .unset] [(.int (0 : Int32))] _
          refine XS.istore X3.here hx rfl (hb hby at_34) rfl (l' := #[iv p1, iv p2, iv (3 : Int32), rv b2, iv (0 : Int32), iv (0 : Int32), .unset, .unset, .unset]) rfl ?_
          show own_S p e below T3 m 36 #[iv p1, iv p2, iv (3 : Int32), rv b2, iv (0 : Int32), iv (0 : Int32), .unset, .unset, .unset] [] _
          refine XS.aloadN X3.here hx rfl (hb hby at_36) rfl rfl ?_
          show own_S p e below T3 m 37 #[iv p1, iv p2, iv (3 : Int32), rv b2, iv (0 : Int32), iv (0 : Int32), .unset, .unset, .unset] [(.ref b2)] _
          refine XS.iload X3.here hx rfl (hb hby at_37) rfl ?_
          show own_S p e below T3 m 39 #[iv p1, iv p2, iv (3 : Int32), rv b2, iv (0 : Int32), iv (0 : Int32), .unset, .unset, .unset] [(.int (0 : Int32)), (.ref b2)] _
          refine st68.trans ?_
          show own_S p e below T68 m 42 #[iv p1, iv p2, iv (3 : Int32), rv b2, iv (0 : Int32), iv (0 : Int32), .unset, .unset, .unset] [] _
          refine XS.iload X68.here hx rfl (hb hby at_42) rfl ?_
          show own_S p e below T68 m 44 #[iv p1, iv p2, iv (3 : Int32), rv b2, iv (0 : Int32), iv (0 : Int32), .unset, .unset, .unset] [(.int (0 : Int32))] _
          refine XS.ifYes X68.here hx rfl (pc0 := 44) (pc' := 50) rfl (hb hby at_44) rfl ((if0 _ _).trans (teq (by decide : (0 : Int32) = (0 : Int32))).1) (by decide) (by decide) ?_
          exact k)
        exact ⟨T68, _, _, X68, rfl, N68, ((Keep.refl h2 [b2]).trans K68 (allS (Or.inl (List.mem_of_getElem? (i := 0) rfl)) all0)), (0 : Int32), (0 : Int64), (0 : Int32), (by decide), E68c, Fp68, Fa68, pre69⟩
      ·  -- pc 26 no
        obtain ⟨cq70, kq70, q70a, q70b, q70c⟩ := isOf hZ e3 A2
        obtain ⟨_, _, ⟨T70, L70, k70, n70⟩, -, X70, ⟨Lc70, hQ70, l70, y70, z70⟩, st70⟩ := X3.virtualBack hx (y := (⟨"com/example/clockwright/clockwright/mcmc/Acceptance", "count", "(Z)V"⟩ : MethodName)) (z := (⟨"com/example/clockwright/clockwright/mcmc/Acceptance", "count", "(Z)V"⟩ : MethodName)) hown (mvT hZ (hw _ (List.mem_of_getElem? (i := 30) rfl))) (mvT hZ (hw _ (List.mem_of_getElem? (i := 31) rfl))) (notFace_of_selects (args := #[]) (mvT hZ (hw _ (List.mem_of_getElem? (i := 33) rfl)))) (mvT hZ (hw _ (List.mem_of_getElem? (i := 33) rfl))) (mvT hZ (hw _ (List.mem_of_getElem? (i := 32) rfl))) (by decide) (backOf (W := 0) (rm6 l Z a0 hw [] b2 (1 : Int32) (0 : Int64) (0 : Int64) h2 n0 Zs4 A2 g_b2 F_proposals_b2 F_accepted_b2) hZ (hw _ (List.mem_of_getElem? (i := 34) rfl)) (hw _ (List.mem_of_getElem? (i := 3) rfl)) (by decide) (by decide)) q70a q70c (g := (mkF m 39 #[iv p1, iv p2, iv (3 : Int32), rv b2, iv (0 : Int32), iv (1 : Int32), .unset, .unset, .unset] [(.int (1 : Int32)), (.ref b2)])) rfl (by rw [hml]; rfl) (Steps.refl _) (argsL := [(.int (1 : Int32))]) (rest := []) (lenOf pd_3 rfl) rfl (by show 2 * 0 + _ ≤ _; exact Nat.le_of_eq rfl) (hb hby at_39) (fun _ _ => ⟨rfl, e3, (by decide : 1 + 0 ≤ _), (by decide : 2 + 0 ≤ _)⟩)
        dsimp only [Pt.U, Pt.locs, Pt.cells, Pt.slots] at X70 l70 y70 z70 st70 hQ70
        subst l70 y70 z70
        obtain ⟨rfl, N70q, K70, E70c, Fp70, Fa70⟩ := hQ70
        have N70 := Fr.app N3 N70q
        rw [show ((0 : Int64) + (1 : Int64)) = (1 : Int64) from by decide] at Fp70
        rw [show ((0 : Int64) + own_one (1 : Int32)) = ((0 : Int64) + (1 : Int64)) from by simp [own_one]] at Fa70
        have pre71 : ∀ tg, own_S p e below T70 m 50 #[iv p1, iv p2, iv (3 : Int32), rv b2, iv ((0 : Int32) + (1 : Int32)), iv (1 : Int32), .unset, .unset, .unset] [] tg → Steps p.tables e below (s₁.setTop (entryFrame m #[(.int p1), (.int p2)] maxLocals)) tg := fun tg k => pre67 tg (by
          show own_S p e below T3 m 26 #[iv p1, iv p2, iv (3 : Int32), rv b2, iv (0 : Int32), .unset, .unset, .unset, .unset] [(.int (p2 &&& (1 : Int32)))] _
          refine XS.ifNo X3.here hx rfl (hb hby at_26) rfl ((if0 _ _).trans (feq hc26_66).1) ?_
          show own_S p e below T3 m 29 #[iv p1, iv p2, iv (3 : Int32), rv b2, iv (0 : Int32), .unset, .unset, .unset, .unset] [] _
          refine XS.iconst X3.here hx rfl (hb hby at_29) ?_
          show own_S p e below T3 m 30 #[iv p1, iv p2, iv (3 : Int32), rv b2, iv (0 : Int32), .unset, .unset, .unset, .unset] [(.int (1 : Int32))] _
          refine XS.goto X3.here hx rfl (pc0 := 30) (pc' := 34) rfl (hb hby at_30) (by decide) (by decide) ?_
          show own_S p e below T3 m 34 #[iv p1, iv p2, iv (3 : Int32), rv b2, iv (0 : Int32), .unset, .unset, .unset, .unset] [(.int (1 : Int32))] _
          refine XS.istore X3.here hx rfl (hb hby at_34) rfl (l' := #[iv p1, iv p2, iv (3 : Int32), rv b2, iv (0 : Int32), iv (1 : Int32), .unset, .unset, .unset]) rfl ?_
          show own_S p e below T3 m 36 #[iv p1, iv p2, iv (3 : Int32), rv b2, iv (0 : Int32), iv (1 : Int32), .unset, .unset, .unset] [] _
          refine XS.aloadN X3.here hx rfl (hb hby at_36) rfl rfl ?_
          show own_S p e below T3 m 37 #[iv p1, iv p2, iv (3 : Int32), rv b2, iv (0 : Int32), iv (1 : Int32), .unset, .unset, .unset] [(.ref b2)] _
          refine XS.iload X3.here hx rfl (hb hby at_37) rfl ?_
          show own_S p e below T3 m 39 #[iv p1, iv p2, iv (3 : Int32), rv b2, iv (0 : Int32), iv (1 : Int32), .unset, .unset, .unset] [(.int (1 : Int32)), (.ref b2)] _
          refine st70.trans ?_
          show own_S p e below T70 m 42 #[iv p1, iv p2, iv (3 : Int32), rv b2, iv (0 : Int32), iv (1 : Int32), .unset, .unset, .unset] [] _
          refine XS.iload X70.here hx rfl (hb hby at_42) rfl ?_
          show own_S p e below T70 m 44 #[iv p1, iv p2, iv (3 : Int32), rv b2, iv (0 : Int32), iv (1 : Int32), .unset, .unset, .unset] [(.int (1 : Int32))] _
          refine XS.ifNo X70.here hx rfl (hb hby at_44) rfl ((if0 _ _).trans (feq (by decide : ¬ ((1 : Int32) = (0 : Int32)))).1) ?_
          show own_S p e below T70 m 47 #[iv p1, iv p2, iv (3 : Int32), rv b2, iv (0 : Int32), iv (1 : Int32), .unset, .unset, .unset] [] _
          refine XS.iinc X70.here hx rfl (hb hby at_47) rfl (l' := #[iv p1, iv p2, iv (3 : Int32), rv b2, iv ((0 : Int32) + (1 : Int32)), iv (1 : Int32), .unset, .unset, .unset]) rfl ?_
          exact k)
        exact ⟨T70, _, _, X70, rfl, N70, ((Keep.refl h2 [b2]).trans K70 (allS (Or.inl (List.mem_of_getElem? (i := 0) rfl)) all0)), ((0 : Int32) + (1 : Int32)), ((0 : Int64) + (1 : Int64)), (1 : Int32), (by decide), E70c, Fp70, Fa70, pre71⟩
    obtain ⟨Tj72, hj72, Lj72, Xj72, ej72, Nj72, Kj72, a_2, A_2, fz_2, h_a_2, Fj72_0, Fj72_1, Fj72_2, prej72⟩ : ∃ (Tj : State) (hj : Heap) (Lj : List Loc), Stand p l e room_1 s m #[(.int p1), (.int p2)] below meth c Tj Lj 1 2 ∧ Tj.heap = hj ∧ Fr n0 Lj ∧ Keep hj65 hj [b2] ∧ ∃ a_2 : Int32, ∃ A_2 : Int64, ∃ fz_2 : Int32, ((a_2 = 0 ∧ A_2 = 0) ∨ (a_2 = 1 ∧ A_2 = 1) ∨ (a_2 = 2 ∧ A_2 = 2)) ∧ (Exa Z hj b2 "com/example/clockwright/clockwright/mcmc/Acceptance") ∧ (Fld Z hj b2 "com/example/clockwright/clockwright/mcmc/Acceptance" "proposals" "J" (.long (2 : Int64))) ∧ (Fld Z hj b2 "com/example/clockwright/clockwright/mcmc/Acceptance" "accepted" "J" (.long A_2)) ∧ ∀ tg, own_S p e below Tj m 82 #[iv p1, iv p2, iv (3 : Int32), rv b2, iv a_2, iv fz_2, .unset, .unset, .unset] [] tg → Steps p.tables e below (s₁.setTop (entryFrame m #[(.int p1), (.int p2)] maxLocals)) tg := by
      have pre74 : ∀ tg, own_S p e below Tj65 m 58 #[iv p1, iv p2, iv (3 : Int32), rv b2, iv a_1, iv fz_1, .unset, .unset, .unset] [(.int (p2 &&& (2 : Int32)))] tg → Steps p.tables e below (s₁.setTop (entryFrame m #[(.int p1), (.int p2)] maxLocals)) tg := fun tg k => prej65 tg (by
        show own_S p e below Tj65 m 50 #[iv p1, iv p2, iv (3 : Int32), rv b2, iv a_1, iv fz_1, .unset, .unset, .unset] [] _
        refine XS.iloadN Xj65.here hx rfl (hb hby at_50) rfl ?_
        show own_S p e below Tj65 m 51 #[iv p1, iv p2, iv (3 : Int32), rv b2, iv a_1, iv fz_1, .unset, .unset, .unset] [(.int (3 : Int32))] _
        refine XS.iconst Xj65.here hx rfl (hb hby at_51) ?_
        show own_S p e below Tj65 m 52 #[iv p1, iv p2, iv (3 : Int32), rv b2, iv a_1, iv fz_1, .unset, .unset, .unset] [(.int (2 : Int32)), (.int (3 : Int32))] _
        refine XS.icmpNo Xj65.here hx rfl (hb hby at_52) rfl (flt (by decide : ¬ ((3 : Int32) < (2 : Int32)))).1 ?_
        show own_S p e below Tj65 m 55 #[iv p1, iv p2, iv (3 : Int32), rv b2, iv a_1, iv fz_1, .unset, .unset, .unset] [] _
        refine XS.iloadN Xj65.here hx rfl (hb hby at_55) rfl ?_
        show own_S p e below Tj65 m 56 #[iv p1, iv p2, iv (3 : Int32), rv b2, iv a_1, iv fz_1, .unset, .unset, .unset] [(.int p2)] _
        refine XS.iconst Xj65.here hx rfl (hb hby at_56) ?_
        show own_S p e below Tj65 m 57 #[iv p1, iv p2, iv (3 : Int32), rv b2, iv a_1, iv fz_1, .unset, .unset, .unset] [(.int (2 : Int32)), (.int p2)] _
        refine XS.iand Xj65.here hx rfl (hb hby at_57) rfl ?_
        exact k)
      by_cases hc58_73 : (p2 &&& (2 : Int32)) = (0 : Int32)
      ·  -- pc 58 yes
        have Zs76 : n0 ≤ hj65.size := (Nat.le_trans Zs4 Kj65.1)
        obtain ⟨cq75, kq75, q75a, q75b, q75c⟩ := isOf hZ ej65 Fj65_0
        obtain ⟨_, _, ⟨T75, L75, k75, n75⟩, -, X75, ⟨Lc75, hQ75, l75, y75, z75⟩, st75⟩ := Xj65.virtualBack hx (y := (⟨"com/example/clockwright/clockwright/mcmc/Acceptance", "count", "(Z)V"⟩ : MethodName)) (z := (⟨"com/example/clockwright/clockwright/mcmc/Acceptance", "count", "(Z)V"⟩ : MethodName)) hown (mvT hZ (hw _ (List.mem_of_getElem? (i := 30) rfl))) (mvT hZ (hw _ (List.mem_of_getElem? (i := 31) rfl))) (notFace_of_selects (args := #[]) (mvT hZ (hw _ (List.mem_of_getElem? (i := 33) rfl)))) (mvT hZ (hw _ (List.mem_of_getElem? (i := 33) rfl))) (mvT hZ (hw _ (List.mem_of_getElem? (i := 32) rfl))) (by decide) (backOf (W := 0) (rm6 l Z a0 hw [] b2 (0 : Int32) (1 : Int64) A_1 hj65 n0 Zs76 Fj65_0 g_b2 Fj65_1 Fj65_2) hZ (hw _ (List.mem_of_getElem? (i := 34) rfl)) (hw _ (List.mem_of_getElem? (i := 3) rfl)) (by decide) (by decide)) q75a q75c (g := (mkF m 71 #[iv p1, iv p2, iv (3 : Int32), rv b2, iv a_1, iv (0 : Int32), .unset, .unset, .unset] [(.int (0 : Int32)), (.ref b2)])) rfl (by rw [hml]; rfl) (Steps.refl _) (argsL := [(.int (0 : Int32))]) (rest := []) (lenOf pd_3 rfl) rfl (by show 2 * 0 + _ ≤ _; exact Nat.le_of_eq rfl) (hb hby at_71) (fun _ _ => ⟨rfl, ej65, (by decide : 1 + 0 ≤ _), (by decide : 2 + 0 ≤ _)⟩)
        dsimp only [Pt.U, Pt.locs, Pt.cells, Pt.slots] at X75 l75 y75 z75 st75 hQ75
        subst l75 y75 z75
        obtain ⟨rfl, N75q, K75, E75c, Fp75, Fa75⟩ := hQ75
        have N75 := Fr.app Nj65 N75q
        rw [show ((1 : Int64) + (1 : Int64)) = (2 : Int64) from by decide] at Fp75
        rw [show (A_1 + own_one (0 : Int32)) = A_1 from by simp [own_one]] at Fa75
        have pre77 : ∀ tg, own_S p e below T75 m 82 #[iv p1, iv p2, iv (3 : Int32), rv b2, iv a_1, iv (0 : Int32), .unset, .unset, .unset] [] tg → Steps p.tables e below (s₁.setTop (entryFrame m #[(.int p1), (.int p2)] maxLocals)) tg := fun tg k => pre74 tg (by
          show own_S p e below Tj65 m 58 #[iv p1, iv p2, iv (3 : Int32), rv b2, iv a_1, iv fz_1, .unset, .unset, .unset] [(.int (p2 &&& (2 : Int32)))] _
          refine XS.ifYes Xj65.here hx rfl (pc0 := 58) (pc' := 65) rfl (hb hby at_58) rfl ((if0 _ _).trans (teq hc58_73).1) (by decide) (by decide) ?_
          show own_S p e below Tj65 m 65 #[iv p1, iv p2, iv (3 : Int32), rv b2, iv a_1, iv fz_1, .unset, .unset, .unset] [] _
          refine XS.iconst Xj65.here hx rfl (hb hby at_65) ?_
          show own_S p e below Tj65 m 66 #[iv p1, iv p2, iv (3 : Int32), rv b2, iv a_1, iv fz_1, .unset, .unset, .unset] [(.int (0 : Int32))] _
          refine XS.istore Xj65.here hx rfl (hb hby at_66) rfl (l' := #[iv p1, iv p2, iv (3 : Int32), rv b2, iv a_1, iv (0 : Int32), .unset, .unset, .unset]) rfl ?_
          show own_S p e below Tj65 m 68 #[iv p1, iv p2, iv (3 : Int32), rv b2, iv a_1, iv (0 : Int32), .unset, .unset, .unset] [] _
          refine XS.aloadN Xj65.here hx rfl (hb hby at_68) rfl rfl ?_
          show own_S p e below Tj65 m 69 #[iv p1, iv p2, iv (3 : Int32), rv b2, iv a_1, iv (0 : Int32), .unset, .unset, .unset] [(.ref b2)] _
          refine XS.iload Xj65.here hx rfl (hb hby at_69) rfl ?_
          show own_S p e below Tj65 m 71 #[iv p1, iv p2, iv (3 : Int32), rv b2, iv a_1, iv (0 : Int32), .unset, .unset, .unset] [(.int (0 : Int32)), (.ref b2)] _
          refine st75.trans ?_
          show own_S p e below T75 m 74 #[iv p1, iv p2, iv (3 : Int32), rv b2, iv a_1, iv (0 : Int32), .unset, .unset, .unset] [] _
          refine XS.iload X75.here hx rfl (hb hby at_74) rfl ?_
          show own_S p e below T75 m 76 #[iv p1, iv p2, iv (3 : Int32), rv b2, iv a_1, iv (0 : Int32), .unset, .unset, .unset] [(.int (0 : Int32))] _
          refine XS.ifYes X75.here hx rfl (pc0 := 76) (pc' := 82) rfl (hb hby at_76) rfl ((if0 _ _).trans (teq (by decide : (0 : Int32) = (0 : Int32))).1) (by decide) (by decide) ?_
          exact k)
        exact ⟨T75, _, _, X75, rfl, N75, ((Keep.refl hj65 [b2]).trans K75 (allS (Or.inl (List.mem_of_getElem? (i := 0) rfl)) all0)), a_1, A_1, (0 : Int32), (by rcases h_a_1 with ⟨rfl, rfl⟩ | ⟨rfl, rfl⟩ <;> decide), E75c, Fp75, Fa75, pre77⟩
      ·  -- pc 58 no
        have Zs79 : n0 ≤ hj65.size := (Nat.le_trans Zs4 Kj65.1)
        obtain ⟨cq78, kq78, q78a, q78b, q78c⟩ := isOf hZ ej65 Fj65_0
        obtain ⟨_, _, ⟨T78, L78, k78, n78⟩, -, X78, ⟨Lc78, hQ78, l78, y78, z78⟩, st78⟩ := Xj65.virtualBack hx (y := (⟨"com/example/clockwright/clockwright/mcmc/Acceptance", "count", "(Z)V"⟩ : MethodName)) (z := (⟨"com/example/clockwright/clockwright/mcmc/Acceptance", "count", "(Z)V"⟩ : MethodName)) hown (mvT hZ (hw _ (List.mem_of_getElem? (i := 30) rfl))) (mvT hZ (hw _ (List.mem_of_getElem? (i := 31) rfl))) (notFace_of_selects (args := #[]) (mvT hZ (hw _ (List.mem_of_getElem? (i := 33) rfl)))) (mvT hZ (hw _ (List.mem_of_getElem? (i := 33) rfl))) (mvT hZ (hw _ (List.mem_of_getElem? (i := 32) rfl))) (by decide) (backOf (W := 0) (rm6 l Z a0 hw [] b2 (1 : Int32) (1 : Int64) A_1 hj65 n0 Zs79 Fj65_0 g_b2 Fj65_1 Fj65_2) hZ (hw _ (List.mem_of_getElem? (i := 34) rfl)) (hw _ (List.mem_of_getElem? (i := 3) rfl)) (by decide) (by decide)) q78a q78c (g := (mkF m 71 #[iv p1, iv p2, iv (3 : Int32), rv b2, iv a_1, iv (1 : Int32), .unset, .unset, .unset] [(.int (1 : Int32)), (.ref b2)])) rfl (by rw [hml]; rfl) (Steps.refl _) (argsL := [(.int (1 : Int32))]) (rest := []) (lenOf pd_3 rfl) rfl (by show 2 * 0 + _ ≤ _; exact Nat.le_of_eq rfl) (hb hby at_71) (fun _ _ => ⟨rfl, ej65, (by decide : 1 + 0 ≤ _), (by decide : 2 + 0 ≤ _)⟩)
        dsimp only [Pt.U, Pt.locs, Pt.cells, Pt.slots] at X78 l78 y78 z78 st78 hQ78
        subst l78 y78 z78
        obtain ⟨rfl, N78q, K78, E78c, Fp78, Fa78⟩ := hQ78
        have N78 := Fr.app Nj65 N78q
        rw [show ((1 : Int64) + (1 : Int64)) = (2 : Int64) from by decide] at Fp78
        rw [show (A_1 + own_one (1 : Int32)) = (A_1 + (1 : Int64)) from by simp [own_one]] at Fa78
        have pre80 : ∀ tg, own_S p e below T78 m 82 #[iv p1, iv p2, iv (3 : Int32), rv b2, iv (a_1 + (1 : Int32)), iv (1 : Int32), .unset, .unset, .unset] [] tg → Steps p.tables e below (s₁.setTop (entryFrame m #[(.int p1), (.int p2)] maxLocals)) tg := fun tg k => pre74 tg (by
          show own_S p e below Tj65 m 58 #[iv p1, iv p2, iv (3 : Int32), rv b2, iv a_1, iv fz_1, .unset, .unset, .unset] [(.int (p2 &&& (2 : Int32)))] _
          refine XS.ifNo Xj65.here hx rfl (hb hby at_58) rfl ((if0 _ _).trans (feq hc58_73).1) ?_
          show own_S p e below Tj65 m 61 #[iv p1, iv p2, iv (3 : Int32), rv b2, iv a_1, iv fz_1, .unset, .unset, .unset] [] _
          refine XS.iconst Xj65.here hx rfl (hb hby at_61) ?_
          show own_S p e below Tj65 m 62 #[iv p1, iv p2, iv (3 : Int32), rv b2, iv a_1, iv fz_1, .unset, .unset, .unset] [(.int (1 : Int32))] _
          refine XS.goto Xj65.here hx rfl (pc0 := 62) (pc' := 66) rfl (hb hby at_62) (by decide) (by decide) ?_
          show own_S p e below Tj65 m 66 #[iv p1, iv p2, iv (3 : Int32), rv b2, iv a_1, iv fz_1, .unset, .unset, .unset] [(.int (1 : Int32))] _
          refine XS.istore Xj65.here hx rfl (hb hby at_66) rfl (l' := #[iv p1, iv p2, iv (3 : Int32), rv b2, iv a_1, iv (1 : Int32), .unset, .unset, .unset]) rfl ?_
          show own_S p e below Tj65 m 68 #[iv p1, iv p2, iv (3 : Int32), rv b2, iv a_1, iv (1 : Int32), .unset, .unset, .unset] [] _
          refine XS.aloadN Xj65.here hx rfl (hb hby at_68) rfl rfl ?_
          show own_S p e below Tj65 m 69 #[iv p1, iv p2, iv (3 : Int32), rv b2, iv a_1, iv (1 : Int32), .unset, .unset, .unset] [(.ref b2)] _
          refine XS.iload Xj65.here hx rfl (hb hby at_69) rfl ?_
          show own_S p e below Tj65 m 71 #[iv p1, iv p2, iv (3 : Int32), rv b2, iv a_1, iv (1 : Int32), .unset, .unset, .unset] [(.int (1 : Int32)), (.ref b2)] _
          refine st78.trans ?_
          show own_S p e below T78 m 74 #[iv p1, iv p2, iv (3 : Int32), rv b2, iv a_1, iv (1 : Int32), .unset, .unset, .unset] [] _
          refine XS.iload X78.here hx rfl (hb hby at_74) rfl ?_
          show own_S p e below T78 m 76 #[iv p1, iv p2, iv (3 : Int32), rv b2, iv a_1, iv (1 : Int32), .unset, .unset, .unset] [(.int (1 : Int32))] _
          refine XS.ifNo X78.here hx rfl (hb hby at_76) rfl ((if0 _ _).trans (feq (by decide : ¬ ((1 : Int32) = (0 : Int32)))).1) ?_
          show own_S p e below T78 m 79 #[iv p1, iv p2, iv (3 : Int32), rv b2, iv a_1, iv (1 : Int32), .unset, .unset, .unset] [] _
          refine XS.iinc X78.here hx rfl (hb hby at_79) rfl (l' := #[iv p1, iv p2, iv (3 : Int32), rv b2, iv (a_1 + (1 : Int32)), iv (1 : Int32), .unset, .unset, .unset]) rfl ?_
          exact k)
        exact ⟨T78, _, _, X78, rfl, N78, ((Keep.refl hj65 [b2]).trans K78 (allS (Or.inl (List.mem_of_getElem? (i := 0) rfl)) all0)), (a_1 + (1 : Int32)), (A_1 + (1 : Int64)), (1 : Int32), (by rcases h_a_1 with ⟨rfl, rfl⟩ | ⟨rfl, rfl⟩ <;> decide), E78c, Fp78, Fa78, pre80⟩
    obtain ⟨Tj81, hj81, Lj81, Xj81, ej81, Nj81, Kj81, a_3, A_3, fz_3, h_a_3, Fj81_0, Fj81_1, Fj81_2, prej81⟩ : ∃ (Tj : State) (hj : Heap) (Lj : List Loc), Stand p l e room_1 s m #[(.int p1), (.int p2)] below meth c Tj Lj 1 2 ∧ Tj.heap = hj ∧ Fr n0 Lj ∧ Keep hj72 hj [b2] ∧ ∃ a_3 : Int32, ∃ A_3 : Int64, ∃ fz_3 : Int32, ((a_3 = 0 ∧ A_3 = 0) ∨ (a_3 = 1 ∧ A_3 = 1) ∨ (a_3 = 2 ∧ A_3 = 2) ∨ (a_3 = 3 ∧ A_3 = 3)) ∧ (Exa Z hj b2 "com/example/clockwright/clockwright/mcmc/Acceptance") ∧ (Fld Z hj b2 "com/example/clockwright/clockwright/mcmc/Acceptance" "proposals" "J" (.long (3 : Int64))) ∧ (Fld Z hj b2 "com/example/clockwright/clockwright/mcmc/Acceptance" "accepted" "J" (.long A_3)) ∧ ∀ tg, own_S p e below Tj m 114 #[iv p1, iv p2, iv (3 : Int32), rv b2, iv a_3, iv fz_3, .unset, .unset, .unset] [] tg → Steps p.tables e below (s₁.setTop (entryFrame m #[(.int p1), (.int p2)] maxLocals)) tg := by
      have pre83 : ∀ tg, own_S p e below Tj72 m 90 #[iv p1, iv p2, iv (3 : Int32), rv b2, iv a_2, iv fz_2, .unset, .unset, .unset] [(.int (p2 &&& (4 : Int32)))] tg → Steps p.tables e below (s₁.setTop (entryFrame m #[(.int p1), (.int p2)] maxLocals)) tg := fun tg k => prej72 tg (by
        show own_S p e below Tj72 m 82 #[iv p1, iv p2, iv (3 : Int32), rv b2, iv a_2, iv fz_2, .unset, .unset, .unset] [] _
        refine XS.iloadN Xj72.here hx rfl (hb hby at_82) rfl ?_
        show own_S p e below Tj72 m 83 #[iv p1, iv p2, iv (3 : Int32), rv b2, iv a_2, iv fz_2, .unset, .unset, .unset] [(.int (3 : Int32))] _
        refine XS.iconst Xj72.here hx rfl (hb hby at_83) ?_
        show own_S p e below Tj72 m 84 #[iv p1, iv p2, iv (3 : Int32), rv b2, iv a_2, iv fz_2, .unset, .unset, .unset] [(.int (3 : Int32)), (.int (3 : Int32))] _
        refine XS.icmpNo Xj72.here hx rfl (hb hby at_84) rfl (flt (by decide : ¬ ((3 : Int32) < (3 : Int32)))).1 ?_
        show own_S p e below Tj72 m 87 #[iv p1, iv p2, iv (3 : Int32), rv b2, iv a_2, iv fz_2, .unset, .unset, .unset] [] _
        refine XS.iloadN Xj72.here hx rfl (hb hby at_87) rfl ?_
        show own_S p e below Tj72 m 88 #[iv p1, iv p2, iv (3 : Int32), rv b2, iv a_2, iv fz_2, .unset, .unset, .unset] [(.int p2)] _
        refine XS.iconst Xj72.here hx rfl (hb hby at_88) ?_
        show own_S p e below Tj72 m 89 #[iv p1, iv p2, iv (3 : Int32), rv b2, iv a_2, iv fz_2, .unset, .unset, .unset] [(.int (4 : Int32)), (.int p2)] _
        refine XS.iand Xj72.here hx rfl (hb hby at_89) rfl ?_
        exact k)
      by_cases hc90_82 : (p2 &&& (4 : Int32)) = (0 : Int32)
      ·  -- pc 90 yes
        have Zs85 : n0 ≤ hj72.size := (Nat.le_trans (Nat.le_trans Zs4 Kj65.1) Kj72.1)
        obtain ⟨cq84, kq84, q84a, q84b, q84c⟩ := isOf hZ ej72 Fj72_0
        obtain ⟨_, _, ⟨T84, L84, k84, n84⟩, -, X84, ⟨Lc84, hQ84, l84, y84, z84⟩, st84⟩ := Xj72.virtualBack hx (y := (⟨"com/example/clockwright/clockwright/mcmc/Acceptance", "count", "(Z)V"⟩ : MethodName)) (z := (⟨"com/example/clockwright/clockwright/mcmc/Acceptance", "count", "(Z)V"⟩ : MethodName)) hown (mvT hZ (hw _ (List.mem_of_getElem? (i := 30) rfl))) (mvT hZ (hw _ (List.mem_of_getElem? (i := 31) rfl))) (notFace_of_selects (args := #[]) (mvT hZ (hw _ (List.mem_of_getElem? (i := 33) rfl)))) (mvT hZ (hw _ (List.mem_of_getElem? (i := 33) rfl))) (mvT hZ (hw _ (List.mem_of_getElem? (i := 32) rfl))) (by decide) (backOf (W := 0) (rm6 l Z a0 hw [] b2 (0 : Int32) (2 : Int64) A_2 hj72 n0 Zs85 Fj72_0 g_b2 Fj72_1 Fj72_2) hZ (hw _ (List.mem_of_getElem? (i := 34) rfl)) (hw _ (List.mem_of_getElem? (i := 3) rfl)) (by decide) (by decide)) q84a q84c (g := (mkF m 103 #[iv p1, iv p2, iv (3 : Int32), rv b2, iv a_2, iv (0 : Int32), .unset, .unset, .unset] [(.int (0 : Int32)), (.ref b2)])) rfl (by rw [hml]; rfl) (Steps.refl _) (argsL := [(.int (0 : Int32))]) (rest := []) (lenOf pd_3 rfl) rfl (by show 2 * 0 + _ ≤ _; exact Nat.le_of_eq rfl) (hb hby at_103) (fun _ _ => ⟨rfl, ej72, (by decide : 1 + 0 ≤ _), (by decide : 2 + 0 ≤ _)⟩)
        dsimp only [Pt.U, Pt.locs, Pt.cells, Pt.slots] at X84 l84 y84 z84 st84 hQ84
        subst l84 y84 z84
        obtain ⟨rfl, N84q, K84, E84c, Fp84, Fa84⟩ := hQ84
        have N84 := Fr.app Nj72 N84q
        rw [show ((2 : Int64) + (1 : Int64)) = (3 : Int64) from by decide] at Fp84
        rw [show (A_2 + own_one (0 : Int32)) = A_2 from by simp [own_one]] at Fa84
        have pre86 : ∀ tg, own_S p e below T84 m 114 #[iv p1, iv p2, iv (3 : Int32), rv b2, iv a_2, iv (0 : Int32), .unset, .unset, .unset] [] tg → Steps p.tables e below (s₁.setTop (entryFrame m #[(.int p1), (.int p2)] maxLocals)) tg := fun tg k => pre83 tg (by
          show own_S p e below Tj72 m 90 #[iv p1, iv p2, iv (3 : Int32), rv b2, iv a_2, iv fz_2, .unset, .unset, .unset] [(.int (p2 &&& (4 : Int32)))] _
          refine XS.ifYes Xj72.here hx rfl (pc0 := 90) (pc' := 97) rfl (hb hby at_90) rfl ((if0 _ _).trans (teq hc90_82).1) (by decide) (by decide) ?_
          show own_S p e below Tj72 m 97 #[iv p1, iv p2, iv (3 : Int32), rv b2, iv a_2, iv fz_2, .unset, .unset, .unset] [] _
          refine XS.iconst Xj72.here hx rfl (hb hby at_97) ?_
          show own_S p e below Tj72 m 98 #[iv p1, iv p2, iv (3 : Int32), rv b2, iv a_2, iv fz_2, .unset, .unset, .unset] [(.int (0 : Int32))] _
          refine XS.istore Xj72.here hx rfl (hb hby at_98) rfl (l' := #[iv p1, iv p2, iv (3 : Int32), rv b2, iv a_2, iv (0 : Int32), .unset, .unset, .unset]) rfl ?_
          show own_S p e below Tj72 m 100 #[iv p1, iv p2, iv (3 : Int32), rv b2, iv a_2, iv (0 : Int32), .unset, .unset, .unset] [] _
          refine XS.aloadN Xj72.here hx rfl (hb hby at_100) rfl rfl ?_
          show own_S p e below Tj72 m 101 #[iv p1, iv p2, iv (3 : Int32), rv b2, iv a_2, iv (0 : Int32), .unset, .unset, .unset] [(.ref b2)] _
          refine XS.iload Xj72.here hx rfl (hb hby at_101) rfl ?_
          show own_S p e below Tj72 m 103 #[iv p1, iv p2, iv (3 : Int32), rv b2, iv a_2, iv (0 : Int32), .unset, .unset, .unset] [(.int (0 : Int32)), (.ref b2)] _
          refine st84.trans ?_
          show own_S p e below T84 m 106 #[iv p1, iv p2, iv (3 : Int32), rv b2, iv a_2, iv (0 : Int32), .unset, .unset, .unset] [] _
          refine XS.iload X84.here hx rfl (hb hby at_106) rfl ?_
          show own_S p e below T84 m 108 #[iv p1, iv p2, iv (3 : Int32), rv b2, iv a_2, iv (0 : Int32), .unset, .unset, .unset] [(.int (0 : Int32))] _
          refine XS.ifYes X84.here hx rfl (pc0 := 108) (pc' := 114) rfl (hb hby at_108) rfl ((if0 _ _).trans (teq (by decide : (0 : Int32) = (0 : Int32))).1) (by decide) (by decide) ?_
          exact k)
        exact ⟨T84, _, _, X84, rfl, N84, ((Keep.refl hj72 [b2]).trans K84 (allS (Or.inl (List.mem_of_getElem? (i := 0) rfl)) all0)), a_2, A_2, (0 : Int32), (by rcases h_a_2 with ⟨rfl, rfl⟩ | ⟨rfl, rfl⟩ | ⟨rfl, rfl⟩ <;> decide), E84c, Fp84, Fa84, pre86⟩
      ·  -- pc 90 no
        have Zs88 : n0 ≤ hj72.size := (Nat.le_trans (Nat.le_trans Zs4 Kj65.1) Kj72.1)
        obtain ⟨cq87, kq87, q87a, q87b, q87c⟩ := isOf hZ ej72 Fj72_0
        obtain ⟨_, _, ⟨T87, L87, k87, n87⟩, -, X87, ⟨Lc87, hQ87, l87, y87, z87⟩, st87⟩ := Xj72.virtualBack hx (y := (⟨"com/example/clockwright/clockwright/mcmc/Acceptance", "count", "(Z)V"⟩ : MethodName)) (z := (⟨"com/example/clockwright/clockwright/mcmc/Acceptance", "count", "(Z)V"⟩ : MethodName)) hown (mvT hZ (hw _ (List.mem_of_getElem? (i := 30) rfl))) (mvT hZ (hw _ (List.mem_of_getElem? (i := 31) rfl))) (notFace_of_selects (args := #[]) (mvT hZ (hw _ (List.mem_of_getElem? (i := 33) rfl)))) (mvT hZ (hw _ (List.mem_of_getElem? (i := 33) rfl))) (mvT hZ (hw _ (List.mem_of_getElem? (i := 32) rfl))) (by decide) (backOf (W := 0) (rm6 l Z a0 hw [] b2 (1 : Int32) (2 : Int64) A_2 hj72 n0 Zs88 Fj72_0 g_b2 Fj72_1 Fj72_2) hZ (hw _ (List.mem_of_getElem? (i := 34) rfl)) (hw _ (List.mem_of_getElem? (i := 3) rfl)) (by decide) (by decide)) q87a q87c (g := (mkF m 103 #[iv p1, iv p2, iv (3 : Int32), rv b2, iv a_2, iv (1 : Int32), .unset, .unset, .unset] [(.int (1 : Int32)), (.ref b2)])) rfl (by rw [hml]; rfl) (Steps.refl _) (argsL := [(.int (1 : Int32))]) (rest := []) (lenOf pd_3 rfl) rfl (by show 2 * 0 + _ ≤ _; exact Nat.le_of_eq rfl) (hb hby at_103) (fun _ _ => ⟨rfl, ej72, (by decide : 1 + 0 ≤ _), (by decide : 2 + 0 ≤ _)⟩)
        dsimp only [Pt.U, Pt.locs, Pt.cells, Pt.slots] at X87 l87 y87 z87 st87 hQ87
        subst l87 y87 z87
        obtain ⟨rfl, N87q, K87, E87c, Fp87, Fa87⟩ := hQ87
        have N87 := Fr.app Nj72 N87q
        rw [show ((2 : Int64) + (1 : Int64)) = (3 : Int64) from by decide] at Fp87
        rw [show (A_2 + own_one (1 : Int32)) = (A_2 + (1 : Int64)) from by simp [own_one]] at Fa87
        have pre89 : ∀ tg, own_S p e below T87 m 114 #[iv p1, iv p2, iv (3 : Int32), rv b2, iv (a_2 + (1 : Int32)), iv (1 : Int32), .unset, .unset, .unset] [] tg → Steps p.tables e below (s₁.setTop (entryFrame m #[(.int p1), (.int p2)] maxLocals)) tg := fun tg k => pre83 tg (by
          show own_S p e below Tj72 m 90 #[iv p1, iv p2, iv (3 : Int32), rv b2, iv a_2, iv fz_2, .unset, .unset, .unset] [(.int (p2 &&& (4 : Int32)))] _
          refine XS.ifNo Xj72.here hx rfl (hb hby at_90) rfl ((if0 _ _).trans (feq hc90_82).1) ?_
          show own_S p e below Tj72 m 93 #[iv p1, iv p2, iv (3 : Int32), rv b2, iv a_2, iv fz_2, .unset, .unset, .unset] [] _
          refine XS.iconst Xj72.here hx rfl (hb hby at_93) ?_
          show own_S p e below Tj72 m 94 #[iv p1, iv p2, iv (3 : Int32), rv b2, iv a_2, iv fz_2, .unset, .unset, .unset] [(.int (1 : Int32))] _
          refine XS.goto Xj72.here hx rfl (pc0 := 94) (pc' := 98) rfl (hb hby at_94) (by decide) (by decide) ?_
          show own_S p e below Tj72 m 98 #[iv p1, iv p2, iv (3 : Int32), rv b2, iv a_2, iv fz_2, .unset, .unset, .unset] [(.int (1 : Int32))] _
          refine XS.istore Xj72.here hx rfl (hb hby at_98) rfl (l' := #[iv p1, iv p2, iv (3 : Int32), rv b2, iv a_2, iv (1 : Int32), .unset, .unset, .unset]) rfl ?_
          show own_S p e below Tj72 m 100 #[iv p1, iv p2, iv (3 : Int32), rv b2, iv a_2, iv (1 : Int32), .unset, .unset, .unset] [] _
          refine XS.aloadN Xj72.here hx rfl (hb hby at_100) rfl rfl ?_
          show own_S p e below Tj72 m 101 #[iv p1, iv p2, iv (3 : Int32), rv b2, iv a_2, iv (1 : Int32), .unset, .unset, .unset] [(.ref b2)] _
          refine XS.iload Xj72.here hx rfl (hb hby at_101) rfl ?_
          show own_S p e below Tj72 m 103 #[iv p1, iv p2, iv (3 : Int32), rv b2, iv a_2, iv (1 : Int32), .unset, .unset, .unset] [(.int (1 : Int32)), (.ref b2)] _
          refine st87.trans ?_
          show own_S p e below T87 m 106 #[iv p1, iv p2, iv (3 : Int32), rv b2, iv a_2, iv (1 : Int32), .unset, .unset, .unset] [] _
          refine XS.iload X87.here hx rfl (hb hby at_106) rfl ?_
          show own_S p e below T87 m 108 #[iv p1, iv p2, iv (3 : Int32), rv b2, iv a_2, iv (1 : Int32), .unset, .unset, .unset] [(.int (1 : Int32))] _
          refine XS.ifNo X87.here hx rfl (hb hby at_108) rfl ((if0 _ _).trans (feq (by decide : ¬ ((1 : Int32) = (0 : Int32)))).1) ?_
          show own_S p e below T87 m 111 #[iv p1, iv p2, iv (3 : Int32), rv b2, iv a_2, iv (1 : Int32), .unset, .unset, .unset] [] _
          refine XS.iinc X87.here hx rfl (hb hby at_111) rfl (l' := #[iv p1, iv p2, iv (3 : Int32), rv b2, iv (a_2 + (1 : Int32)), iv (1 : Int32), .unset, .unset, .unset]) rfl ?_
          exact k)
        exact ⟨T87, _, _, X87, rfl, N87, ((Keep.refl hj72 [b2]).trans K87 (allS (Or.inl (List.mem_of_getElem? (i := 0) rfl)) all0)), (a_2 + (1 : Int32)), (A_2 + (1 : Int64)), (1 : Int32), (by rcases h_a_2 with ⟨rfl, rfl⟩ | ⟨rfl, rfl⟩ | ⟨rfl, rfl⟩ <;> decide), E87c, Fp87, Fa87, pre89⟩
    have pre90 : ∀ tg, own_S p e below Tj81 m 147 #[iv p1, iv p2, iv (3 : Int32), rv b2, iv a_3, iv fz_3, .unset, .unset, .unset] [] tg → Steps p.tables e below (s₁.setTop (entryFrame m #[(.int p1), (.int p2)] maxLocals)) tg := fun tg k => prej81 tg (by
      show own_S p e below Tj81 m 114 #[iv p1, iv p2, iv (3 : Int32), rv b2, iv a_3, iv fz_3, .unset, .unset, .unset] [] _
      refine XS.iloadN Xj81.here hx rfl (hb hby at_114) rfl ?_
      show own_S p e below Tj81 m 115 #[iv p1, iv p2, iv (3 : Int32), rv b2, iv a_3, iv fz_3, .unset, .unset, .unset] [(.int (3 : Int32))] _
      refine XS.iconst Xj81.here hx rfl (hb hby at_115) ?_
      show own_S p e below Tj81 m 116 #[iv p1, iv p2, iv (3 : Int32), rv b2, iv a_3, iv fz_3, .unset, .unset, .unset] [(.int (4 : Int32)), (.int (3 : Int32))] _
      refine XS.icmpYes Xj81.here hx rfl (pc0 := 116) (pc' := 147) rfl (hb hby at_116) rfl (tlt (by decide : (3 : Int32) < (4 : Int32))).1 (by decide) (by decide) ?_
      exact k)
    rcases h_a_3 with ⟨rfl, rfl⟩ | ⟨rfl, rfl⟩ | ⟨rfl, rfl⟩ | ⟨rfl, rfl⟩
    ·  -- case
      have Zs92 : n0 ≤ hj81.size := (Nat.le_trans (Nat.le_trans (Nat.le_trans Zs4 Kj65.1) Kj72.1) Kj81.1)
      obtain ⟨cq91, kq91, q91a, q91b, q91c⟩ := isOf hZ ej81 Fj81_0
      obtain ⟨_, _, ⟨T91, L91, k91, n91⟩, -, X91, ⟨Lc91, hQ91, l91, y91, z91⟩, st91⟩ := Xj81.virtualBack hx (y := (⟨"com/example/clockwright/clockwright/mcmc/Acceptance", "rate", "()D"⟩ : MethodName)) (z := (⟨"com/example/clockwright/clockwright/mcmc/Acceptance", "rate", "()D"⟩ : MethodName)) hown (mvT hZ (hw _ (List.mem_of_getElem? (i := 10) rfl))) (mvT hZ (hw _ (List.mem_of_getElem? (i := 11) rfl))) (notFace_of_selects (args := #[]) (mvT hZ (hw _ (List.mem_of_getElem? (i := 13) rfl)))) (mvT hZ (hw _ (List.mem_of_getElem? (i := 13) rfl))) (mvT hZ (hw _ (List.mem_of_getElem? (i := 12) rfl))) (by decide) (backOf (W := 0) (rmR1 l Z a0 hw [] b2 (3 : Int64) (0 : Int64) hj81 n0 Zs92 Fj81_1 Fj81_2 (by decide) (by unfold Jvm.Free.Fl.NoNaN64; decide +kernel)) hZ (hw _ (List.mem_of_getElem? (i := 14) rfl)) (hw _ (List.mem_of_getElem? (i := 3) rfl)) (by decide) (by decide)) q91a q91c (g := (mkF m 148 #[iv p1, iv p2, iv (3 : Int32), rv b2, iv (0 : Int32), iv fz_3, .unset, .unset, .unset] [(.ref b2)])) rfl (by rw [hml]; rfl) (Steps.refl _) (argsL := []) (rest := []) (lenOf pd_1 rfl) rfl (by show 2 * 0 + _ ≤ _; exact Nat.le_of_eq rfl) (hb hby at_148) (fun _ _ => ⟨rfl, ej81, (by decide : 1 + 0 ≤ _), (by decide : 2 + 0 ≤ _)⟩)
      dsimp only [Pt.U, Pt.locs, Pt.cells, Pt.slots] at X91 l91 y91 z91 st91 hQ91
      subst l91 y91 z91
      obtain ⟨hv91, N91q, e91q⟩ := hQ91
      have N91 := Fr.app Nj81 N91q
      rw [show FP.ddiv (FP.l2d (0 : Int64)) (FP.l2d (3 : Int64)) = (0 : UInt64) from by decide +kernel] at hv91
      subst hv91
      have e91 : T91.heap = hj81 := e91q
      obtain ⟨cq93, kq93, q93a, q93b, q93c⟩ := isOf hZ e91 Fj81_0
      obtain ⟨_, _, ⟨T93, L93, k93, n93⟩, -, X93, ⟨Lc93, hQ93, l93, y93, z93⟩, st93⟩ := X91.virtualBack hx (y := (⟨"com/example/clockwright/clockwright/mcmc/Acceptance", "proposals", "()J"⟩ : MethodName)) (z := (⟨"com/example/clockwright/clockwright/mcmc/Acceptance", "proposals", "()J"⟩ : MethodName)) hown (mvT hZ (hw _ (List.mem_of_getElem? (i := 18) rfl))) (mvT hZ (hw _ (List.mem_of_getElem? (i := 19) rfl))) (notFace_of_selects (args := #[]) (mvT hZ (hw _ (List.mem_of_getElem? (i := 21) rfl)))) (mvT hZ (hw _ (List.mem_of_getElem? (i := 21) rfl))) (mvT hZ (hw _ (List.mem_of_getElem? (i := 20) rfl))) (by decide) (backOf (W := 0) (rm4 l Z a0 hw [] b2 (3 : Int64) hj81 n0 Zs92 Fj81_1) hZ (hw _ (List.mem_of_getElem? (i := 22) rfl)) (hw _ (List.mem_of_getElem? (i := 3) rfl)) (by decide) (by decide)) q93a q93c (g := (mkF m 154 #[iv p1, iv p2, iv (3 : Int32), rv b2, iv (0 : Int32), .val (.double (0 : UInt64)), .second, .unset, .unset] [(.ref b2)])) rfl (by rw [hml]; rfl) (Steps.refl _) (argsL := []) (rest := []) (lenOf pd_2 rfl) rfl (by show 2 * 0 + _ ≤ _; exact Nat.le_of_eq rfl) (hb hby at_154) (fun _ _ => ⟨rfl, e91, (by decide : 1 + 0 ≤ _), (by decide : 2 + 0 ≤ _)⟩)
      dsimp only [Pt.U, Pt.locs, Pt.cells, Pt.slots] at X93 l93 y93 z93 st93 hQ93
      subst l93 y93 z93
      obtain ⟨rfl, N93q, e93q⟩ := hQ93
      have N93 := Fr.app N91 N93q
      have e93 : T93.heap = hj81 := e93q
      obtain ⟨cq94, kq94, q94a, q94b, q94c⟩ := isOf hZ e93 Fj81_0
      obtain ⟨_, _, ⟨T94, L94, k94, n94⟩, -, X94, ⟨Lc94, hQ94, l94, y94, z94⟩, st94⟩ := X93.virtualBack hx (y := (⟨"com/example/clockwright/clockwright/mcmc/Acceptance", "accepted", "()J"⟩ : MethodName)) (z := (⟨"com/example/clockwright/clockwright/mcmc/Acceptance", "accepted", "()J"⟩ : MethodName)) hown (mvT hZ (hw _ (List.mem_of_getElem? (i := 23) rfl))) (mvT hZ (hw _ (List.mem_of_getElem? (i := 24) rfl))) (notFace_of_selects (args := #[]) (mvT hZ (hw _ (List.mem_of_getElem? (i := 26) rfl)))) (mvT hZ (hw _ (List.mem_of_getElem? (i := 26) rfl))) (mvT hZ (hw _ (List.mem_of_getElem? (i := 25) rfl))) (by decide) (backOf (W := 0) (rm5 l Z a0 hw [] b2 (0 : Int64) hj81 n0 Zs92 Fj81_2) hZ (hw _ (List.mem_of_getElem? (i := 27) rfl)) (hw _ (List.mem_of_getElem? (i := 3) rfl)) (by decide) (by decide)) q94a q94c (g := (mkF m 164 #[iv p1, iv p2, iv (3 : Int32), rv b2, iv (0 : Int32), .val (.double (0 : UInt64)), .second, .unset, .unset] [(.ref b2)])) rfl (by rw [hml]; rfl) (Steps.refl _) (argsL := []) (rest := []) (lenOf pd_2 rfl) rfl (by show 2 * 0 + _ ≤ _; exact Nat.le_of_eq rfl) (hb hby at_164) (fun _ _ => ⟨rfl, e93, (by decide : 1 + 0 ≤ _), (by decide : 2 + 0 ≤ _)⟩)
      dsimp only [Pt.U, Pt.locs, Pt.cells, Pt.slots] at X94 l94 y94 z94 st94 hQ94
      subst l94 y94 z94
      obtain ⟨rfl, N94q, e94q⟩ := hQ94
      have N94 := Fr.app N93 N94q
      have e94 : T94.heap = hj81 := e94q
      obtain ⟨_, _, ⟨T95, L95, k95, n95⟩, -, X95, ⟨Lc95, hQ95, l95, y95, z95⟩, st95⟩ := Jvm.LawKit.callS X94 hx (y := (⟨"com/example/clockwright/clockwright/mcmc/AcceptanceRatePinLaw", "expected", "(II)D"⟩ : MethodName)) hown (mvT hZ (hw _ (List.mem_of_getElem? (i := 35) rfl))) (mvT hZ (hw _ (List.mem_of_getElem? (i := 36) rfl))) (mvT hZ (hw _ (List.mem_of_getElem? (i := 37) rfl))) (mvT hZ (hw _ (List.mem_of_getElem? (i := 38) rfl))) (by decide) (backOf (W := 0) (rm7 l Z a0 hw [] (3 : Int32) (0 : Int32) hj81 n0 Zs92 ) hZ (hw _ (List.mem_of_getElem? (i := 38) rfl)) (hw _ (List.mem_of_getElem? (i := 37) rfl)) (by decide) (by decide)) (g := (mkF m 197 #[iv p1, iv p2, iv (3 : Int32), rv b2, iv (0 : Int32), .val (.double (0 : UInt64)), .second, .unset, .unset] [(.int (0 : Int32)), (.int (3 : Int32))])) rfl (by rw [hml]; rfl) (argsL := [(.int (3 : Int32)), (.int (0 : Int32))]) (rest := []) (lenOf pd_4 rfl) rfl (by show 2 * 0 + _ ≤ _; exact Nat.le_of_eq rfl) (hb hby at_197) (fun _ _ => ⟨rfl, e94, (by decide : 1 + 0 ≤ _), (by decide : 2 + 0 ≤ _)⟩)
      dsimp only [Pt.U, Pt.locs, Pt.cells, Pt.slots] at X95 l95 y95 z95 st95 hQ95
      subst l95 y95 z95
      obtain ⟨hv95, N95q, e95q⟩ := hQ95
      have N95 := Fr.app N94 N95q
      rw [show own_exp (3 : Int32) (0 : Int32) = (0 : UInt64) from by decide] at hv95
      subst hv95
      have e95 : T95.heap = hj81 := e95q
      have pre96 : ∀ tg, own_S p e below T95 m 229 #[iv p1, iv p2, iv (3 : Int32), rv b2, iv (0 : Int32), .val (.double (0 : UInt64)), .second, .val (.double (0 : UInt64)), .second] [(.int (1 : Int32))] tg → Steps p.tables e below (s₁.setTop (entryFrame m #[(.int p1), (.int p2)] maxLocals)) tg := fun tg k => pre90 tg (by
        show own_S p e below Tj81 m 147 #[iv p1, iv p2, iv (3 : Int32), rv b2, iv (0 : Int32), iv fz_3, .unset, .unset, .unset] [] _
        refine XS.aloadN Xj81.here hx rfl (hb hby at_147) rfl rfl ?_
        show own_S p e below Tj81 m 148 #[iv p1, iv p2, iv (3 : Int32), rv b2, iv (0 : Int32), iv fz_3, .unset, .unset, .unset] [(.ref b2)] _
        refine st91.trans ?_
        show own_S p e below T91 m 151 #[iv p1, iv p2, iv (3 : Int32), rv b2, iv (0 : Int32), iv fz_3, .unset, .unset, .unset] [(.double (0 : UInt64))] _
        refine XS.dstore X91.here hx rfl (hb hby at_151) rfl (l' := #[iv p1, iv p2, iv (3 : Int32), rv b2, iv (0 : Int32), .val (.double (0 : UInt64)), .second, .unset, .unset]) rfl ?_
        show own_S p e below T91 m 153 #[iv p1, iv p2, iv (3 : Int32), rv b2, iv (0 : Int32), .val (.double (0 : UInt64)), .second, .unset, .unset] [] _
        refine XS.aloadN X91.here hx rfl (hb hby at_153) rfl rfl ?_
        show own_S p e below T91 m 154 #[iv p1, iv p2, iv (3 : Int32), rv b2, iv (0 : Int32), .val (.double (0 : UInt64)), .second, .unset, .unset] [(.ref b2)] _
        refine st93.trans ?_
        show own_S p e below T93 m 157 #[iv p1, iv p2, iv (3 : Int32), rv b2, iv (0 : Int32), .val (.double (0 : UInt64)), .second, .unset, .unset] [(.long (3 : Int64))] _
        refine XS.iloadN X93.here hx rfl (hb hby at_157) rfl ?_
        show own_S p e below T93 m 158 #[iv p1, iv p2, iv (3 : Int32), rv b2, iv (0 : Int32), .val (.double (0 : UInt64)), .second, .unset, .unset] [(.int (3 : Int32)), (.long (3 : Int64))] _
        refine XS.i2l X93.here hx rfl (hb hby at_158) rfl ?_
        show own_S p e below T93 m 159 #[iv p1, iv p2, iv (3 : Int32), rv b2, iv (0 : Int32), .val (.double (0 : UInt64)), .second, .unset, .unset] [(.long ((3 : Int32).toInt64)), (.long (3 : Int64))] _
        refine XS.lcmp X93.here hx rfl (hb hby at_159) rfl ?_
        show own_S p e below T93 m 160 #[iv p1, iv p2, iv (3 : Int32), rv b2, iv (0 : Int32), .val (.double (0 : UInt64)), .second, .unset, .unset] [(.int (lcmpW (3 : Int64) ((3 : Int32).toInt64)))] _
        refine XS.ifNo X93.here hx rfl (hb hby at_160) rfl ((if0 _ _).trans (teq ((lw_eq _ _).mpr (by decide : (3 : Int64) = ((3 : Int32).toInt64)))).2) ?_
        show own_S p e below T93 m 163 #[iv p1, iv p2, iv (3 : Int32), rv b2, iv (0 : Int32), .val (.double (0 : UInt64)), .second, .unset, .unset] [] _
        refine XS.aloadN X93.here hx rfl (hb hby at_163) rfl rfl ?_
        show own_S p e below T93 m 164 #[iv p1, iv p2, iv (3 : Int32), rv b2, iv (0 : Int32), .val (.double (0 : UInt64)), .second, .unset, .unset] [(.ref b2)] _
        refine st94.trans ?_
        show own_S p e below T94 m 167 #[iv p1, iv p2, iv (3 : Int32), rv b2, iv (0 : Int32), .val (.double (0 : UInt64)), .second, .unset, .unset] [(.long (0 : Int64))] _
        refine XS.iload X94.here hx rfl (hb hby at_167) rfl ?_
        show own_S p e below T94 m 169 #[iv p1, iv p2, iv (3 : Int32), rv b2, iv (0 : Int32), .val (.double (0 : UInt64)), .second, .unset, .unset] [(.int (0 : Int32)), (.long (0 : Int64))] _
        refine XS.i2l X94.here hx rfl (hb hby at_169) rfl ?_
        show own_S p e below T94 m 170 #[iv p1, iv p2, iv (3 : Int32), rv b2, iv (0 : Int32), .val (.double (0 : UInt64)), .second, .unset, .unset] [(.long ((0 : Int32).toInt64)), (.long (0 : Int64))] _
        refine XS.lcmp X94.here hx rfl (hb hby at_170) rfl ?_
        show own_S p e below T94 m 171 #[iv p1, iv p2, iv (3 : Int32), rv b2, iv (0 : Int32), .val (.double (0 : UInt64)), .second, .unset, .unset] [(.int (lcmpW (0 : Int64) ((0 : Int32).toInt64)))] _
        refine XS.ifYes X94.here hx rfl (pc0 := 171) (pc' := 176) rfl (hb hby at_171) rfl ((if0 _ _).trans (teq ((lw_eq _ _).mpr (by decide : (0 : Int64) = ((0 : Int32).toInt64)))).1) (by decide) (by decide) ?_
        show own_S p e below T94 m 176 #[iv p1, iv p2, iv (3 : Int32), rv b2, iv (0 : Int32), .val (.double (0 : UInt64)), .second, .unset, .unset] [] _
        refine XS.iloadN X94.here hx rfl (hb hby at_176) rfl ?_
        show own_S p e below T94 m 177 #[iv p1, iv p2, iv (3 : Int32), rv b2, iv (0 : Int32), .val (.double (0 : UInt64)), .second, .unset, .unset] [(.int (3 : Int32))] _
        refine XS.ifYes X94.here hx rfl (pc0 := 177) (pc' := 194) rfl (hb hby at_177) rfl ((if0 _ _).trans (feq (by decide : ¬ ((3 : Int32) = (0 : Int32)))).2) (by decide) (by decide) ?_
        show own_S p e below T94 m 194 #[iv p1, iv p2, iv (3 : Int32), rv b2, iv (0 : Int32), .val (.double (0 : UInt64)), .second, .unset, .unset] [] _
        refine XS.iloadN X94.here hx rfl (hb hby at_194) rfl ?_
        show own_S p e below T94 m 195 #[iv p1, iv p2, iv (3 : Int32), rv b2, iv (0 : Int32), .val (.double (0 : UInt64)), .second, .unset, .unset] [(.int (3 : Int32))] _
        refine XS.iload X94.here hx rfl (hb hby at_195) rfl ?_
        show own_S p e below T94 m 197 #[iv p1, iv p2, iv (3 : Int32), rv b2, iv (0 : Int32), .val (.double (0 : UInt64)), .second, .unset, .unset] [(.int (0 : Int32)), (.int (3 : Int32))] _
        refine st95 _ ?_
        show own_S p e below T95 m 200 #[iv p1, iv p2, iv (3 : Int32), rv b2, iv (0 : Int32), .val (.double (0 : UInt64)), .second, .unset, .unset] [(.double (0 : UInt64))] _
        refine XS.dstore X95.here hx rfl (hb hby at_200) rfl (l' := #[iv p1, iv p2, iv (3 : Int32), rv b2, iv (0 : Int32), .val (.double (0 : UInt64)), .second, .val (.double (0 : UInt64)), .second]) rfl ?_
        show own_S p e below T95 m 202 #[iv p1, iv p2, iv (3 : Int32), rv b2, iv (0 : Int32), .val (.double (0 : UInt64)), .second, .val (.double (0 : UInt64)), .second] [] _
        refine XS.dload X95.here hx rfl (hb hby at_202) rfl ?_
        show own_S p e below T95 m 204 #[iv p1, iv p2, iv (3 : Int32), rv b2, iv (0 : Int32), .val (.double (0 : UInt64)), .second, .val (.double (0 : UInt64)), .second] [(.double (0 : UInt64))] _
        refine XS.dload X95.here hx rfl (hb hby at_204) rfl ?_
        show own_S p e below T95 m 206 #[iv p1, iv p2, iv (3 : Int32), rv b2, iv (0 : Int32), .val (.double (0 : UInt64)), .second, .val (.double (0 : UInt64)), .second] [(.double (0 : UInt64)), (.double (0 : UInt64))] _
        refine XS.dcmpS X95.here hx rfl (hb hby at_206) rfl (v := (0 : Int32)) (by decide +kernel) ?_
        show own_S p e below T95 m 207 #[iv p1, iv p2, iv (3 : Int32), rv b2, iv (0 : Int32), .val (.double (0 : UInt64)), .second, .val (.double (0 : UInt64)), .second] [(.int (0 : Int32))] _
        refine XS.ifNo X95.here hx rfl (hb hby at_207) rfl ((if0 _ _).trans (teq (by decide : (0 : Int32) = (0 : Int32))).2) ?_
        show own_S p e below T95 m 210 #[iv p1, iv p2, iv (3 : Int32), rv b2, iv (0 : Int32), .val (.double (0 : UInt64)), .second, .val (.double (0 : UInt64)), .second] [] _
        refine XS.dconst0 X95.here hx rfl (hb hby at_210) (v := (0 : UInt64)) rfl ?_
        show own_S p e below T95 m 211 #[iv p1, iv p2, iv (3 : Int32), rv b2, iv (0 : Int32), .val (.double (0 : UInt64)), .second, .val (.double (0 : UInt64)), .second] [(.double (0 : UInt64))] _
        refine XS.dload X95.here hx rfl (hb hby at_211) rfl ?_
        show own_S p e below T95 m 213 #[iv p1, iv p2, iv (3 : Int32), rv b2, iv (0 : Int32), .val (.double (0 : UInt64)), .second, .val (.double (0 : UInt64)), .second] [(.double (0 : UInt64)), (.double (0 : UInt64))] _
        refine XS.dcmpS X95.here hx rfl (hb hby at_213) rfl (v := (0 : Int32)) (by decide +kernel) ?_
        show own_S p e below T95 m 214 #[iv p1, iv p2, iv (3 : Int32), rv b2, iv (0 : Int32), .val (.double (0 : UInt64)), .second, .val (.double (0 : UInt64)), .second] [(.int (0 : Int32))] _
        refine XS.ifNo X95.here hx rfl (hb hby at_214) rfl ((if0 _ _).trans (flt (by decide : ¬ ((0 : Int32) < (0 : Int32)))).2.2.1) ?_
        show own_S p e below T95 m 217 #[iv p1, iv p2, iv (3 : Int32), rv b2, iv (0 : Int32), .val (.double (0 : UInt64)), .second, .val (.double (0 : UInt64)), .second] [] _
        refine XS.dload X95.here hx rfl (hb hby at_217) rfl ?_
        show own_S p e below T95 m 219 #[iv p1, iv p2, iv (3 : Int32), rv b2, iv (0 : Int32), .val (.double (0 : UInt64)), .second, .val (.double (0 : UInt64)), .second] [(.double (0 : UInt64))] _
        refine XS.dconst1 X95.here hx rfl (hb hby at_219) (v := (4607182418800017408 : UInt64)) rfl ?_
        show own_S p e below T95 m 220 #[iv p1, iv p2, iv (3 : Int32), rv b2, iv (0 : Int32), .val (.double (0 : UInt64)), .second, .val (.double (0 : UInt64)), .second] [(.double (4607182418800017408 : UInt64)), (.double (0 : UInt64))] _
        refine XS.dcmpS X95.here hx rfl (hb hby at_220) rfl (v := (-1 : Int32)) (by decide +kernel) ?_
        show own_S p e below T95 m 221 #[iv p1, iv p2, iv (3 : Int32), rv b2, iv (0 : Int32), .val (.double (0 : UInt64)), .second, .val (.double (0 : UInt64)), .second] [(.int (-1 : Int32))] _
        refine XS.ifNo X95.here hx rfl (hb hby at_221) rfl ((if0 _ _).trans (flt (by decide : ¬ ((0 : Int32) < (-1 : Int32)))).2.2.1) ?_
        show own_S p e below T95 m 224 #[iv p1, iv p2, iv (3 : Int32), rv b2, iv (0 : Int32), .val (.double (0 : UInt64)), .second, .val (.double (0 : UInt64)), .second] [] _
        refine XS.iconst X95.here hx rfl (hb hby at_224) ?_
        show own_S p e below T95 m 225 #[iv p1, iv p2, iv (3 : Int32), rv b2, iv (0 : Int32), .val (.double (0 : UInt64)), .second, .val (.double (0 : UInt64)), .second] [(.int (1 : Int32))] _
        refine XS.goto X95.here hx rfl (pc0 := 225) (pc' := 229) rfl (hb hby at_225) (by decide) (by decide) ?_
        exact k)
      obtain ⟨fs, hr, hrun, hended, hW, hsame⟩ := X95.leave (v := some (.int (nar .boolean (1 : Int32)))) (fun h => by rw [Bd.returns] at h; cases h)
      refine ⟨_, _, pre96 _ ?_, hrun, hended, _, _, rfl, ?_, ⟨_, rfl⟩, hW, hsame.mono (by decide) (by decide)⟩
      · show own_S p e below T95 m 229 #[iv p1, iv p2, iv (3 : Int32), rv b2, iv (0 : Int32), .val (.double (0 : UInt64)), .second, .val (.double (0 : UInt64)), .second] [(.int (1 : Int32))] _
        exact retN X95 hx (t := .boolean) Bd.returns (by simp) (hb hby at_229) hr
      · show Q0 Z p1 p2 h0 n0 _ T95.heap _
        rw [e95]
        exact ⟨rfl, N95⟩
    ·  -- case
      have Zs98 : n0 ≤ hj81.size := (Nat.le_trans (Nat.le_trans (Nat.le_trans Zs4 Kj65.1) Kj72.1) Kj81.1)
      obtain ⟨cq97, kq97, q97a, q97b, q97c⟩ := isOf hZ ej81 Fj81_0
      obtain ⟨_, _, ⟨T97, L97, k97, n97⟩, -, X97, ⟨Lc97, hQ97, l97, y97, z97⟩, st97⟩ := Xj81.virtualBack hx (y := (⟨"com/example/clockwright/clockwright/mcmc/Acceptance", "rate", "()D"⟩ : MethodName)) (z := (⟨"com/example/clockwright/clockwright/mcmc/Acceptance", "rate", "()D"⟩ : MethodName)) hown (mvT hZ (hw _ (List.mem_of_getElem? (i := 10) rfl))) (mvT hZ (hw _ (List.mem_of_getElem? (i := 11) rfl))) (notFace_of_selects (args := #[]) (mvT hZ (hw _ (List.mem_of_getElem? (i := 13) rfl)))) (mvT hZ (hw _ (List.mem_of_getElem? (i := 13) rfl))) (mvT hZ (hw _ (List.mem_of_getElem? (i := 12) rfl))) (by decide) (backOf (W := 0) (rmR1 l Z a0 hw [] b2 (3 : Int64) (1 : Int64) hj81 n0 Zs98 Fj81_1 Fj81_2 (by decide) (by unfold Jvm.Free.Fl.NoNaN64; decide +kernel)) hZ (hw _ (List.mem_of_getElem? (i := 14) rfl)) (hw _ (List.mem_of_getElem? (i := 3) rfl)) (by decide) (by decide)) q97a q97c (g := (mkF m 148 #[iv p1, iv p2, iv (3 : Int32), rv b2, iv (1 : Int32), iv fz_3, .unset, .unset, .unset] [(.ref b2)])) rfl (by rw [hml]; rfl) (Steps.refl _) (argsL := []) (rest := []) (lenOf pd_1 rfl) rfl (by show 2 * 0 + _ ≤ _; exact Nat.le_of_eq rfl) (hb hby at_148) (fun _ _ => ⟨rfl, ej81, (by decide : 1 + 0 ≤ _), (by decide : 2 + 0 ≤ _)⟩)
      dsimp only [Pt.U, Pt.locs, Pt.cells, Pt.slots] at X97 l97 y97 z97 st97 hQ97
      subst l97 y97 z97
      obtain ⟨hv97, N97q, e97q⟩ := hQ97
      have N97 := Fr.app Nj81 N97q
      rw [show FP.ddiv (FP.l2d (1 : Int64)) (FP.l2d (3 : Int64)) = (4599676419421066581 : UInt64) from by decide +kernel] at hv97
      subst hv97
      have e97 : T97.heap = hj81 := e97q
      obtain ⟨cq99, kq99, q99a, q99b, q99c⟩ := isOf hZ e97 Fj81_0
      obtain ⟨_, _, ⟨T99, L99, k99, n99⟩, -, X99, ⟨Lc99, hQ99, l99, y99, z99⟩, st99⟩ := X97.virtualBack hx (y := (⟨"com/example/clockwright/clockwright/mcmc/Acceptance", "proposals", "()J"⟩ : MethodName)) (z := (⟨"com/example/clockwright/clockwright/mcmc/Acceptance", "proposals", "()J"⟩ : MethodName)) hown (mvT hZ (hw _ (List.mem_of_getElem? (i := 18) rfl))) (mvT hZ (hw _ (List.mem_of_getElem? (i := 19) rfl))) (notFace_of_selects (args := #[]) (mvT hZ (hw _ (List.mem_of_getElem? (i := 21) rfl)))) (mvT hZ (hw _ (List.mem_of_getElem? (i := 21) rfl))) (mvT hZ (hw _ (List.mem_of_getElem? (i := 20) rfl))) (by decide) (backOf (W := 0) (rm4 l Z a0 hw [] b2 (3 : Int64) hj81 n0 Zs98 Fj81_1) hZ (hw _ (List.mem_of_getElem? (i := 22) rfl)) (hw _ (List.mem_of_getElem? (i := 3) rfl)) (by decide) (by decide)) q99a q99c (g := (mkF m 154 #[iv p1, iv p2, iv (3 : Int32), rv b2, iv (1 : Int32), .val (.double (4599676419421066581 : UInt64)), .second, .unset, .unset] [(.ref b2)])) rfl (by rw [hml]; rfl) (Steps.refl _) (argsL := []) (rest := []) (lenOf pd_2 rfl) rfl (by show 2 * 0 + _ ≤ _; exact Nat.le_of_eq rfl) (hb hby at_154) (fun _ _ => ⟨rfl, e97, (by decide : 1 + 0 ≤ _), (by decide : 2 + 0 ≤ _)⟩)
      dsimp only [Pt.U, Pt.locs, Pt.cells, Pt.slots] at X99 l99 y99 z99 st99 hQ99
      subst l99 y99 z99
      obtain ⟨rfl, N99q, e99q⟩ := hQ99
      have N99 := Fr.app N97 N99q
      have e99 : T99.heap = hj81 := e99q
      obtain ⟨cq100, kq100, q100a, q100b, q100c⟩ := isOf hZ e99 Fj81_0
      obtain ⟨_, _, ⟨T100, L100, k100, n100⟩, -, X100, ⟨Lc100, hQ100, l100, y100, z100⟩, st100⟩ := X99.virtualBack hx (y := (⟨"com/example/clockwright/clockwright/mcmc/Acceptance", "accepted", "()J"⟩ : MethodName)) (z := (⟨"com/example/clockwright/clockwright/mcmc/Acceptance", "accepted", "()J"⟩ : MethodName)) hown (mvT hZ (hw _ (List.mem_of_getElem? (i := 23) rfl))) (mvT hZ (hw _ (List.mem_of_getElem? (i := 24) rfl))) (notFace_of_selects (args := #[]) (mvT hZ (hw _ (List.mem_of_getElem? (i := 26) rfl)))) (mvT hZ (hw _ (List.mem_of_getElem? (i := 26) rfl))) (mvT hZ (hw _ (List.mem_of_getElem? (i := 25) rfl))) (by decide) (backOf (W := 0) (rm5 l Z a0 hw [] b2 (1 : Int64) hj81 n0 Zs98 Fj81_2) hZ (hw _ (List.mem_of_getElem? (i := 27) rfl)) (hw _ (List.mem_of_getElem? (i := 3) rfl)) (by decide) (by decide)) q100a q100c (g := (mkF m 164 #[iv p1, iv p2, iv (3 : Int32), rv b2, iv (1 : Int32), .val (.double (4599676419421066581 : UInt64)), .second, .unset, .unset] [(.ref b2)])) rfl (by rw [hml]; rfl) (Steps.refl _) (argsL := []) (rest := []) (lenOf pd_2 rfl) rfl (by show 2 * 0 + _ ≤ _; exact Nat.le_of_eq rfl) (hb hby at_164) (fun _ _ => ⟨rfl, e99, (by decide : 1 + 0 ≤ _), (by decide : 2 + 0 ≤ _)⟩)
      dsimp only [Pt.U, Pt.locs, Pt.cells, Pt.slots] at X100 l100 y100 z100 st100 hQ100
      subst l100 y100 z100
      obtain ⟨rfl, N100q, e100q⟩ := hQ100
      have N100 := Fr.app N99 N100q
      have e100 : T100.heap = hj81 := e100q
      obtain ⟨_, _, ⟨T101, L101, k101, n101⟩, -, X101, ⟨Lc101, hQ101, l101, y101, z101⟩, st101⟩ := Jvm.LawKit.callS X100 hx (y := (⟨"com/example/clockwright/clockwright/mcmc/AcceptanceRatePinLaw", "expected", "(II)D"⟩ : MethodName)) hown (mvT hZ (hw _ (List.mem_of_getElem? (i := 35) rfl))) (mvT hZ (hw _ (List.mem_of_getElem? (i := 36) rfl))) (mvT hZ (hw _ (List.mem_of_getElem? (i := 37) rfl))) (mvT hZ (hw _ (List.mem_of_getElem? (i := 38) rfl))) (by decide) (backOf (W := 0) (rm7 l Z a0 hw [] (3 : Int32) (1 : Int32) hj81 n0 Zs98 ) hZ (hw _ (List.mem_of_getElem? (i := 38) rfl)) (hw _ (List.mem_of_getElem? (i := 37) rfl)) (by decide) (by decide)) (g := (mkF m 197 #[iv p1, iv p2, iv (3 : Int32), rv b2, iv (1 : Int32), .val (.double (4599676419421066581 : UInt64)), .second, .unset, .unset] [(.int (1 : Int32)), (.int (3 : Int32))])) rfl (by rw [hml]; rfl) (argsL := [(.int (3 : Int32)), (.int (1 : Int32))]) (rest := []) (lenOf pd_4 rfl) rfl (by show 2 * 0 + _ ≤ _; exact Nat.le_of_eq rfl) (hb hby at_197) (fun _ _ => ⟨rfl, e100, (by decide : 1 + 0 ≤ _), (by decide : 2 + 0 ≤ _)⟩)
      dsimp only [Pt.U, Pt.locs, Pt.cells, Pt.slots] at X101 l101 y101 z101 st101 hQ101
      subst l101 y101 z101
      obtain ⟨hv101, N101q, e101q⟩ := hQ101
      have N101 := Fr.app N100 N101q
      rw [show own_exp (3 : Int32) (1 : Int32) = (4599676419421066581 : UInt64) from by decide] at hv101
      subst hv101
      have e101 : T101.heap = hj81 := e101q
      have pre102 : ∀ tg, own_S p e below T101 m 229 #[iv p1, iv p2, iv (3 : Int32), rv b2, iv (1 : Int32), .val (.double (4599676419421066581 : UInt64)), .second, .val (.double (4599676419421066581 : UInt64)), .second] [(.int (1 : Int32))] tg → Steps p.tables e below (s₁.setTop (entryFrame m #[(.int p1), (.int p2)] maxLocals)) tg := fun tg k => pre90 tg (by
        show own_S p e below Tj81 m 147 #[iv p1, iv p2, iv (3 : Int32), rv b2, iv (1 : Int32), iv fz_3, .unset, .unset, .unset] [] _
        refine XS.aloadN Xj81.here hx rfl (hb hby at_147) rfl rfl ?_
        show own_S p e below Tj81 m 148 #[iv p1, iv p2, iv (3 : Int32), rv b2, iv (1 : Int32), iv fz_3, .unset, .unset, .unset] [(.ref b2)] _
        refine st97.trans ?_
        show own_S p e below T97 m 151 #[iv p1, iv p2, iv (3 : Int32), rv b2, iv (1 : Int32), iv fz_3, .unset, .unset, .unset] [(.double (4599676419421066581 : UInt64))] _
        refine XS.dstore X97.here hx rfl (hb hby at_151) rfl (l' := #[iv p1, iv p2, iv (3 : Int32), rv b2, iv (1 : Int32), .val (.double (4599676419421066581 : UInt64)), .second, .unset, .unset]) rfl ?_
        show own_S p e below T97 m 153 #[iv p1, iv p2, iv (3 : Int32), rv b2, iv (1 : Int32), .val (.double (4599676419421066581 : UInt64)), .second, .unset, .unset] [] _
        refine XS.aloadN X97.here hx rfl (hb hby at_153) rfl rfl ?_
        show own_S p e below T97 m 154 #[iv p1, iv p2, iv (3 : Int32), rv b2, iv (1 : Int32), .val (.double (4599676419421066581 : UInt64)), .second, .unset, .unset] [(.ref b2)] _
        refine st99.trans ?_
        show own_S p e below T99 m 157 #[iv p1, iv p2, iv (3 : Int32), rv b2, iv (1 : Int32), .val (.double (4599676419421066581 : UInt64)), .second, .unset, .unset] [(.long (3 : Int64))] _
        refine XS.iloadN X99.here hx rfl (hb hby at_157) rfl ?_
        show own_S p e below T99 m 158 #[iv p1, iv p2, iv (3 : Int32), rv b2, iv (1 : Int32), .val (.double (4599676419421066581 : UInt64)), .second, .unset, .unset] [(.int (3 : Int32)), (.long (3 : Int64))] _
        refine XS.i2l X99.here hx rfl (hb hby at_158) rfl ?_
        show own_S p e below T99 m 159 #[iv p1, iv p2, iv (3 : Int32), rv b2, iv (1 : Int32), .val (.double (4599676419421066581 : UInt64)), .second, .unset, .unset] [(.long ((3 : Int32).toInt64)), (.long (3 : Int64))] _
        refine XS.lcmp X99.here hx rfl (hb hby at_159) rfl ?_
        show own_S p e below T99 m 160 #[iv p1, iv p2, iv (3 : Int32), rv b2, iv (1 : Int32), .val (.double (4599676419421066581 : UInt64)), .second, .unset, .unset] [(.int (lcmpW (3 : Int64) ((3 : Int32).toInt64)))] _
        refine XS.ifNo X99.here hx rfl (hb hby at_160) rfl ((if0 _ _).trans (teq ((lw_eq _ _).mpr (by decide : (3 : Int64) = ((3 : Int32).toInt64)))).2) ?_
        show own_S p e below T99 m 163 #[iv p1, iv p2, iv (3 : Int32), rv b2, iv (1 : Int32), .val (.double (4599676419421066581 : UInt64)), .second, .unset, .unset] [] _
        refine XS.aloadN X99.here hx rfl (hb hby at_163) rfl rfl ?_
        show own_S p e below T99 m 164 #[iv p1, iv p2, iv (3 : Int32), rv b2, iv (1 : Int32), .val (.double (4599676419421066581 : UInt64)), .second, .unset, .unset] [(.ref b2)] _
        refine st100.trans ?_
        show own_S p e below T100 m 167 #[iv p1, iv p2, iv (3 : Int32), rv b2, iv (1 : Int32), .val (.double (4599676419421066581 : UInt64)), .second, .unset, .unset] [(.long (1 : Int64))] _
        refine XS.iload X100.here hx rfl (hb hby at_167) rfl ?_
        show own_S p e below T100 m 169 #[iv p1, iv p2, iv (3 : Int32), rv b2, iv (1 : Int32), .val (.double (4599676419421066581 : UInt64)), .second, .unset, .unset] [(.int (1 : Int32)), (.long (1 : Int64))] _
        refine XS.i2l X100.here hx rfl (hb hby at_169) rfl ?_
        show own_S p e below T100 m 170 #[iv p1, iv p2, iv (3 : Int32), rv b2, iv (1 : Int32), .val (.double (4599676419421066581 : UInt64)), .second, .unset, .unset] [(.long ((1 : Int32).toInt64)), (.long (1 : Int64))] _
        refine XS.lcmp X100.here hx rfl (hb hby at_170) rfl ?_
        show own_S p e below T100 m 171 #[iv p1, iv p2, iv (3 : Int32), rv b2, iv (1 : Int32), .val (.double (4599676419421066581 : UInt64)), .second, .unset, .unset] [(.int (lcmpW (1 : Int64) ((1 : Int32).toInt64)))] _
        refine XS.ifYes X100.here hx rfl (pc0 := 171) (pc' := 176) rfl (hb hby at_171) rfl ((if0 _ _).trans (teq ((lw_eq _ _).mpr (by decide : (1 : Int64) = ((1 : Int32).toInt64)))).1) (by decide) (by decide) ?_
        show own_S p e below T100 m 176 #[iv p1, iv p2, iv (3 : Int32), rv b2, iv (1 : Int32), .val (.double (4599676419421066581 : UInt64)), .second, .unset, .unset] [] _
        refine XS.iloadN X100.here hx rfl (hb hby at_176) rfl ?_
        show own_S p e below T100 m 177 #[iv p1, iv p2, iv (3 : Int32), rv b2, iv (1 : Int32), .val (.double (4599676419421066581 : UInt64)), .second, .unset, .unset] [(.int (3 : Int32))] _
        refine XS.ifYes X100.here hx rfl (pc0 := 177) (pc' := 194) rfl (hb hby at_177) rfl ((if0 _ _).trans (feq (by decide : ¬ ((3 : Int32) = (0 : Int32)))).2) (by decide) (by decide) ?_
        show own_S p e below T100 m 194 #[iv p1, iv p2, iv (3 : Int32), rv b2, iv (1 : Int32), .val (.double (4599676419421066581 : UInt64)), .second, .unset, .unset] [] _
        refine XS.iloadN X100.here hx rfl (hb hby at_194) rfl ?_
        show own_S p e below T100 m 195 #[iv p1, iv p2, iv (3 : Int32), rv b2, iv (1 : Int32), .val (.double (4599676419421066581 : UInt64)), .second, .unset, .unset] [(.int (3 : Int32))] _
        refine XS.iload X100.here hx rfl (hb hby at_195) rfl ?_
        show own_S p e below T100 m 197 #[iv p1, iv p2, iv (3 : Int32), rv b2, iv (1 : Int32), .val (.double (4599676419421066581 : UInt64)), .second, .unset, .unset] [(.int (1 : Int32)), (.int (3 : Int32))] _
        refine st101 _ ?_
        show own_S p e below T101 m 200 #[iv p1, iv p2, iv (3 : Int32), rv b2, iv (1 : Int32), .val (.double (4599676419421066581 : UInt64)), .second, .unset, .unset] [(.double (4599676419421066581 : UInt64))] _
        refine XS.dstore X101.here hx rfl (hb hby at_200) rfl (l' := #[iv p1, iv p2, iv (3 : Int32), rv b2, iv (1 : Int32), .val (.double (4599676419421066581 : UInt64)), .second, .val (.double (4599676419421066581 : UInt64)), .second]) rfl ?_
        show own_S p e below T101 m 202 #[iv p1, iv p2, iv (3 : Int32), rv b2, iv (1 : Int32), .val (.double (4599676419421066581 : UInt64)), .second, .val (.double (4599676419421066581 : UInt64)), .second] [] _
        refine XS.dload X101.here hx rfl (hb hby at_202) rfl ?_
        show own_S p e below T101 m 204 #[iv p1, iv p2, iv (3 : Int32), rv b2, iv (1 : Int32), .val (.double (4599676419421066581 : UInt64)), .second, .val (.double (4599676419421066581 : UInt64)), .second] [(.double (4599676419421066581 : UInt64))] _
        refine XS.dload X101.here hx rfl (hb hby at_204) rfl ?_
        show own_S p e below T101 m 206 #[iv p1, iv p2, iv (3 : Int32), rv b2, iv (1 : Int32), .val (.double (4599676419421066581 : UInt64)), .second, .val (.double (4599676419421066581 : UInt64)), .second] [(.double (4599676419421066581 : UInt64)), (.double (4599676419421066581 : UInt64))] _
        refine XS.dcmpS X101.here hx rfl (hb hby at_206) rfl (v := (0 : Int32)) (by decide +kernel) ?_
        show own_S p e below T101 m 207 #[iv p1, iv p2, iv (3 : Int32), rv b2, iv (1 : Int32), .val (.double (4599676419421066581 : UInt64)), .second, .val (.double (4599676419421066581 : UInt64)), .second] [(.int (0 : Int32))] _
        refine XS.ifNo X101.here hx rfl (hb hby at_207) rfl ((if0 _ _).trans (teq (by decide : (0 : Int32) = (0 : Int32))).2) ?_
        show own_S p e below T101 m 210 #[iv p1, iv p2, iv (3 : Int32), rv b2, iv (1 : Int32), .val (.double (4599676419421066581 : UInt64)), .second, .val (.double (4599676419421066581 : UInt64)), .second] [] _
        refine XS.dconst0 X101.here hx rfl (hb hby at_210) (v := (0 : UInt64)) rfl ?_
        show own_S p e below T101 m 211 #[iv p1, iv p2, iv (3 : Int32), rv b2, iv (1 : Int32), .val (.double (4599676419421066581 : UInt64)), .second, .val (.double (4599676419421066581 : UInt64)), .second] [(.double (0 : UInt64))] _
        refine XS.dload X101.here hx rfl (hb hby at_211) rfl ?_
        show own_S p e below T101 m 213 #[iv p1, iv p2, iv (3 : Int32), rv b2, iv (1 : Int32), .val (.double (4599676419421066581 : UInt64)), .second, .val (.double (4599676419421066581 : UInt64)), .second] [(.double (4599676419421066581 : UInt64)), (.double (0 : UInt64))] _
        refine XS.dcmpS X101.here hx rfl (hb hby at_213) rfl (v := (-1 : Int32)) (by decide +kernel) ?_
        show own_S p e below T101 m 214 #[iv p1, iv p2, iv (3 : Int32), rv b2, iv (1 : Int32), .val (.double (4599676419421066581 : UInt64)), .second, .val (.double (4599676419421066581 : UInt64)), .second] [(.int (-1 : Int32))] _
        refine XS.ifNo X101.here hx rfl (hb hby at_214) rfl ((if0 _ _).trans (flt (by decide : ¬ ((0 : Int32) < (-1 : Int32)))).2.2.1) ?_
        show own_S p e below T101 m 217 #[iv p1, iv p2, iv (3 : Int32), rv b2, iv (1 : Int32), .val (.double (4599676419421066581 : UInt64)), .second, .val (.double (4599676419421066581 : UInt64)), .second] [] _
        refine XS.dload X101.here hx rfl (hb hby at_217) rfl ?_
        show own_S p e below T101 m 219 #[iv p1, iv p2, iv (3 : Int32), rv b2, iv (1 : Int32), .val (.double (4599676419421066581 : UInt64)), .second, .val (.double (4599676419421066581 : UInt64)), .second] [(.double (4599676419421066581 : UInt64))] _
        refine XS.dconst1 X101.here hx rfl (hb hby at_219) (v := (4607182418800017408 : UInt64)) rfl ?_
        show own_S p e below T101 m 220 #[iv p1, iv p2, iv (3 : Int32), rv b2, iv (1 : Int32), .val (.double (4599676419421066581 : UInt64)), .second, .val (.double (4599676419421066581 : UInt64)), .second] [(.double (4607182418800017408 : UInt64)), (.double (4599676419421066581 : UInt64))] _
        refine XS.dcmpS X101.here hx rfl (hb hby at_220) rfl (v := (-1 : Int32)) (by decide +kernel) ?_
        show own_S p e below T101 m 221 #[iv p1, iv p2, iv (3 : Int32), rv b2, iv (1 : Int32), .val (.double (4599676419421066581 : UInt64)), .second, .val (.double (4599676419421066581 : UInt64)), .second] [(.int (-1 : Int32))] _
        refine XS.ifNo X101.here hx rfl (hb hby at_221) rfl ((if0 _ _).trans (flt (by decide : ¬ ((0 : Int32) < (-1 : Int32)))).2.2.1) ?_
        show own_S p e below T101 m 224 #[iv p1, iv p2, iv (3 : Int32), rv b2, iv (1 : Int32), .val (.double (4599676419421066581 : UInt64)), .second, .val (.double (4599676419421066581 : UInt64)), .second] [] _
        refine XS.iconst X101.here hx rfl (hb hby at_224) ?_
        show own_S p e below T101 m 225 #[iv p1, iv p2, iv (3 : Int32), rv b2, iv (1 : Int32), .val (.double (4599676419421066581 : UInt64)), .second, .val (.double (4599676419421066581 : UInt64)), .second] [(.int (1 : Int32))] _
        refine XS.goto X101.here hx rfl (pc0 := 225) (pc' := 229) rfl (hb hby at_225) (by decide) (by decide) ?_
        exact k)
      obtain ⟨fs, hr, hrun, hended, hW, hsame⟩ := X101.leave (v := some (.int (nar .boolean (1 : Int32)))) (fun h => by rw [Bd.returns] at h; cases h)
      refine ⟨_, _, pre102 _ ?_, hrun, hended, _, _, rfl, ?_, ⟨_, rfl⟩, hW, hsame.mono (by decide) (by decide)⟩
      · show own_S p e below T101 m 229 #[iv p1, iv p2, iv (3 : Int32), rv b2, iv (1 : Int32), .val (.double (4599676419421066581 : UInt64)), .second, .val (.double (4599676419421066581 : UInt64)), .second] [(.int (1 : Int32))] _
        exact retN X101 hx (t := .boolean) Bd.returns (by simp) (hb hby at_229) hr
      · show Q0 Z p1 p2 h0 n0 _ T101.heap _
        rw [e101]
        exact ⟨rfl, N101⟩
    ·  -- case
      have Zs104 : n0 ≤ hj81.size := (Nat.le_trans (Nat.le_trans (Nat.le_trans Zs4 Kj65.1) Kj72.1) Kj81.1)
      obtain ⟨cq103, kq103, q103a, q103b, q103c⟩ := isOf hZ ej81 Fj81_0
      obtain ⟨_, _, ⟨T103, L103, k103, n103⟩, -, X103, ⟨Lc103, hQ103, l103, y103, z103⟩, st103⟩ := Xj81.virtualBack hx (y := (⟨"com/example/clockwright/clockwright/mcmc/Acceptance", "rate", "()D"⟩ : MethodName)) (z := (⟨"com/example/clockwright/clockwright/mcmc/Acceptance", "rate", "()D"⟩ : MethodName)) hown (mvT hZ (hw _ (List.mem_of_getElem? (i := 10) rfl))) (mvT hZ (hw _ (List.mem_of_getElem? (i := 11) rfl))) (notFace_of_selects (args := #[]) (mvT hZ (hw _ (List.mem_of_getElem? (i := 13) rfl)))) (mvT hZ (hw _ (List.mem_of_getElem? (i := 13) rfl))) (mvT hZ (hw _ (List.mem_of_getElem? (i := 12) rfl))) (by decide) (backOf (W := 0) (rmR1 l Z a0 hw [] b2 (3 : Int64) (2 : Int64) hj81 n0 Zs104 Fj81_1 Fj81_2 (by decide) (by unfold Jvm.Free.Fl.NoNaN64; decide +kernel)) hZ (hw _ (List.mem_of_getElem? (i := 14) rfl)) (hw _ (List.mem_of_getElem? (i := 3) rfl)) (by decide) (by decide)) q103a q103c (g := (mkF m 148 #[iv p1, iv p2, iv (3 : Int32), rv b2, iv (2 : Int32), iv fz_3, .unset, .unset, .unset] [(.ref b2)])) rfl (by rw [hml]; rfl) (Steps.refl _) (argsL := []) (rest := []) (lenOf pd_1 rfl) rfl (by show 2 * 0 + _ ≤ _; exact Nat.le_of_eq rfl) (hb hby at_148) (fun _ _ => ⟨rfl, ej81, (by decide : 1 + 0 ≤ _), (by decide : 2 + 0 ≤ _)⟩)
      dsimp only [Pt.U, Pt.locs, Pt.cells, Pt.slots] at X103 l103 y103 z103 st103 hQ103
      subst l103 y103 z103
      obtain ⟨hv103, N103q, e103q⟩ := hQ103
      have N103 := Fr.app Nj81 N103q
      rw [show FP.ddiv (FP.l2d (2 : Int64)) (FP.l2d (3 : Int64)) = (4604180019048437077 : UInt64) from by decide +kernel] at hv103
      subst hv103
      have e103 : T103.heap = hj81 := e103q
      obtain ⟨cq105, kq105, q105a, q105b, q105c⟩ := isOf hZ e103 Fj81_0
      obtain ⟨_, _, ⟨T105, L105, k105, n105⟩, -, X105, ⟨Lc105, hQ105, l105, y105, z105⟩, st105⟩ := X103.virtualBack hx (y := (⟨"com/example/clockwright/clockwright/mcmc/Acceptance", "proposals", "()J"⟩ : MethodName)) (z := (⟨"com/example/clockwright/clockwright/mcmc/Acceptance", "proposals", "()J"⟩ : MethodName)) hown (mvT hZ (hw _ (List.mem_of_getElem? (i := 18) rfl))) (mvT hZ (hw _ (List.mem_of_getElem? (i := 19) rfl))) (notFace_of_selects (args := #[]) (mvT hZ (hw _ (List.mem_of_getElem? (i := 21) rfl)))) (mvT hZ (hw _ (List.mem_of_getElem? (i := 21) rfl))) (mvT hZ (hw _ (List.mem_of_getElem? (i := 20) rfl))) (by decide) (backOf (W := 0) (rm4 l Z a0 hw [] b2 (3 : Int64) hj81 n0 Zs104 Fj81_1) hZ (hw _ (List.mem_of_getElem? (i := 22) rfl)) (hw _ (List.mem_of_getElem? (i := 3) rfl)) (by decide) (by decide)) q105a q105c (g := (mkF m 154 #[iv p1, iv p2, iv (3 : Int32), rv b2, iv (2 : Int32), .val (.double (4604180019048437077 : UInt64)), .second, .unset, .unset] [(.ref b2)])) rfl (by rw [hml]; rfl) (Steps.refl _) (argsL := []) (rest := []) (lenOf pd_2 rfl) rfl (by show 2 * 0 + _ ≤ _; exact Nat.le_of_eq rfl) (hb hby at_154) (fun _ _ => ⟨rfl, e103, (by decide : 1 + 0 ≤ _), (by decide : 2 + 0 ≤ _)⟩)
      dsimp only [Pt.U, Pt.locs, Pt.cells, Pt.slots] at X105 l105 y105 z105 st105 hQ105
      subst l105 y105 z105
      obtain ⟨rfl, N105q, e105q⟩ := hQ105
      have N105 := Fr.app N103 N105q
      have e105 : T105.heap = hj81 := e105q
      obtain ⟨cq106, kq106, q106a, q106b, q106c⟩ := isOf hZ e105 Fj81_0
      obtain ⟨_, _, ⟨T106, L106, k106, n106⟩, -, X106, ⟨Lc106, hQ106, l106, y106, z106⟩, st106⟩ := X105.virtualBack hx (y := (⟨"com/example/clockwright/clockwright/mcmc/Acceptance", "accepted", "()J"⟩ : MethodName)) (z := (⟨"com/example/clockwright/clockwright/mcmc/Acceptance", "accepted", "()J"⟩ : MethodName)) hown (mvT hZ (hw _ (List.mem_of_getElem? (i := 23) rfl))) (mvT hZ (hw _ (List.mem_of_getElem? (i := 24) rfl))) (notFace_of_selects (args := #[]) (mvT hZ (hw _ (List.mem_of_getElem? (i := 26) rfl)))) (mvT hZ (hw _ (List.mem_of_getElem? (i := 26) rfl))) (mvT hZ (hw _ (List.mem_of_getElem? (i := 25) rfl))) (by decide) (backOf (W := 0) (rm5 l Z a0 hw [] b2 (2 : Int64) hj81 n0 Zs104 Fj81_2) hZ (hw _ (List.mem_of_getElem? (i := 27) rfl)) (hw _ (List.mem_of_getElem? (i := 3) rfl)) (by decide) (by decide)) q106a q106c (g := (mkF m 164 #[iv p1, iv p2, iv (3 : Int32), rv b2, iv (2 : Int32), .val (.double (4604180019048437077 : UInt64)), .second, .unset, .unset] [(.ref b2)])) rfl (by rw [hml]; rfl) (Steps.refl _) (argsL := []) (rest := []) (lenOf pd_2 rfl) rfl (by show 2 * 0 + _ ≤ _; exact Nat.le_of_eq rfl) (hb hby at_164) (fun _ _ => ⟨rfl, e105, (by decide : 1 + 0 ≤ _), (by decide : 2 + 0 ≤ _)⟩)
      dsimp only [Pt.U, Pt.locs, Pt.cells, Pt.slots] at X106 l106 y106 z106 st106 hQ106
      subst l106 y106 z106
      obtain ⟨rfl, N106q, e106q⟩ := hQ106
      have N106 := Fr.app N105 N106q
      have e106 : T106.heap = hj81 := e106q
      obtain ⟨_, _, ⟨T107, L107, k107, n107⟩, -, X107, ⟨Lc107, hQ107, l107, y107, z107⟩, st107⟩ := Jvm.LawKit.callS X106 hx (y := (⟨"com/example/clockwright/clockwright/mcmc/AcceptanceRatePinLaw", "expected", "(II)D"⟩ : MethodName)) hown (mvT hZ (hw _ (List.mem_of_getElem? (i := 35) rfl))) (mvT hZ (hw _ (List.mem_of_getElem? (i := 36) rfl))) (mvT hZ (hw _ (List.mem_of_getElem? (i := 37) rfl))) (mvT hZ (hw _ (List.mem_of_getElem? (i := 38) rfl))) (by decide) (backOf (W := 0) (rm7 l Z a0 hw [] (3 : Int32) (2 : Int32) hj81 n0 Zs104 ) hZ (hw _ (List.mem_of_getElem? (i := 38) rfl)) (hw _ (List.mem_of_getElem? (i := 37) rfl)) (by decide) (by decide)) (g := (mkF m 197 #[iv p1, iv p2, iv (3 : Int32), rv b2, iv (2 : Int32), .val (.double (4604180019048437077 : UInt64)), .second, .unset, .unset] [(.int (2 : Int32)), (.int (3 : Int32))])) rfl (by rw [hml]; rfl) (argsL := [(.int (3 : Int32)), (.int (2 : Int32))]) (rest := []) (lenOf pd_4 rfl) rfl (by show 2 * 0 + _ ≤ _; exact Nat.le_of_eq rfl) (hb hby at_197) (fun _ _ => ⟨rfl, e106, (by decide : 1 + 0 ≤ _), (by decide : 2 + 0 ≤ _)⟩)
      dsimp only [Pt.U, Pt.locs, Pt.cells, Pt.slots] at X107 l107 y107 z107 st107 hQ107
      subst l107 y107 z107
      obtain ⟨hv107, N107q, e107q⟩ := hQ107
      have N107 := Fr.app N106 N107q
      rw [show own_exp (3 : Int32) (2 : Int32) = (4604180019048437077 : UInt64) from by decide] at hv107
      subst hv107
      have e107 : T107.heap = hj81 := e107q
      have pre108 : ∀ tg, own_S p e below T107 m 229 #[iv p1, iv p2, iv (3 : Int32), rv b2, iv (2 : Int32), .val (.double (4604180019048437077 : UInt64)), .second, .val (.double (4604180019048437077 : UInt64)), .second] [(.int (1 : Int32))] tg → Steps p.tables e below (s₁.setTop (entryFrame m #[(.int p1), (.int p2)] maxLocals)) tg := fun tg k => pre90 tg (by
        show own_S p e below Tj81 m 147 #[iv p1, iv p2, iv (3 : Int32), rv b2, iv (2 : Int32), iv fz_3, .unset, .unset, .unset] [] _
        refine XS.aloadN Xj81.here hx rfl (hb hby at_147) rfl rfl ?_
        show own_S p e below Tj81 m 148 #[iv p1, iv p2, iv (3 : Int32), rv b2, iv (2 : Int32), iv fz_3, .unset, .unset, .unset] [(.ref b2)] _
        refine st103.trans ?_
        show own_S p e below T103 m 151 #[iv p1, iv p2, iv (3 : Int32), rv b2, iv (2 : Int32), iv fz_3, .unset, .unset, .unset] [(.double (4604180019048437077 : UInt64))] _
        refine XS.dstore X103.here hx rfl (hb hby at_151) rfl (l' := #[iv p1, iv p2, iv (3 : Int32), rv b2, iv (2 : Int32), .val (.double (4604180019048437077 : UInt64)), .second, .unset, .unset]) rfl ?_
        show own_S p e below T103 m 153 #[iv p1, iv p2, iv (3 : Int32), rv b2, iv (2 : Int32), .val (.double (4604180019048437077 : UInt64)), .second, .unset, .unset] [] _
        refine XS.aloadN X103.here hx rfl (hb hby at_153) rfl rfl ?_
        show own_S p e below T103 m 154 #[iv p1, iv p2, iv (3 : Int32), rv b2, iv (2 : Int32), .val (.double (4604180019048437077 : UInt64)), .second, .unset, .unset] [(.ref b2)] _
        refine st105.trans ?_
        show own_S p e below T105 m 157 #[iv p1, iv p2, iv (3 : Int32), rv b2, iv (2 : Int32), .val (.double (4604180019048437077 : UInt64)), .second, .unset, .unset] [(.long (3 : Int64))] _
        refine XS.iloadN X105.here hx rfl (hb hby at_157) rfl ?_
        show own_S p e below T105 m 158 #[iv p1, iv p2, iv (3 : Int32), rv b2, iv (2 : Int32), .val (.double (4604180019048437077 : UInt64)), .second, .unset, .unset] [(.int (3 : Int32)), (.long (3 : Int64))] _
        refine XS.i2l X105.here hx rfl (hb hby at_158) rfl ?_
        show own_S p e below T105 m 159 #[iv p1, iv p2, iv (3 : Int32), rv b2, iv (2 : Int32), .val (.double (4604180019048437077 : UInt64)), .second, .unset, .unset] [(.long ((3 : Int32).toInt64)), (.long (3 : Int64))] _
        refine XS.lcmp X105.here hx rfl (hb hby at_159) rfl ?_
        show own_S p e below T105 m 160 #[iv p1, iv p2, iv (3 : Int32), rv b2, iv (2 : Int32), .val (.double (4604180019048437077 : UInt64)), .second, .unset, .unset] [(.int (lcmpW (3 : Int64) ((3 : Int32).toInt64)))] _
        refine XS.ifNo X105.here hx rfl (hb hby at_160) rfl ((if0 _ _).trans (teq ((lw_eq _ _).mpr (by decide : (3 : Int64) = ((3 : Int32).toInt64)))).2) ?_
        show own_S p e below T105 m 163 #[iv p1, iv p2, iv (3 : Int32), rv b2, iv (2 : Int32), .val (.double (4604180019048437077 : UInt64)), .second, .unset, .unset] [] _
        refine XS.aloadN X105.here hx rfl (hb hby at_163) rfl rfl ?_
        show own_S p e below T105 m 164 #[iv p1, iv p2, iv (3 : Int32), rv b2, iv (2 : Int32), .val (.double (4604180019048437077 : UInt64)), .second, .unset, .unset] [(.ref b2)] _
        refine st106.trans ?_
        show own_S p e below T106 m 167 #[iv p1, iv p2, iv (3 : Int32), rv b2, iv (2 : Int32), .val (.double (4604180019048437077 : UInt64)), .second, .unset, .unset] [(.long (2 : Int64))] _
        refine XS.iload X106.here hx rfl (hb hby at_167) rfl ?_
        show own_S p e below T106 m 169 #[iv p1, iv p2, iv (3 : Int32), rv b2, iv (2 : Int32), .val (.double (4604180019048437077 : UInt64)), .second, .unset, .unset] [(.int (2 : Int32)), (.long (2 : Int64))] _
        refine XS.i2l X106.here hx rfl (hb hby at_169) rfl ?_
        show own_S p e below T106 m 170 #[iv p1, iv p2, iv (3 : Int32), rv b2, iv (2 : Int32), .val (.double (4604180019048437077 : UInt64)), .second, .unset, .unset] [(.long ((2 : Int32).toInt64)), (.long (2 : Int64))] _
        refine XS.lcmp X106.here hx rfl (hb hby at_170) rfl ?_
        show own_S p e below T106 m 171 #[iv p1, iv p2, iv (3 : Int32), rv b2, iv (2 : Int32), .val (.double (4604180019048437077 : UInt64)), .second, .unset, .unset] [(.int (lcmpW (2 : Int64) ((2 : Int32).toInt64)))] _
        refine XS.ifYes X106.here hx rfl (pc0 := 171) (pc' := 176) rfl (hb hby at_171) rfl ((if0 _ _).trans (teq ((lw_eq _ _).mpr (by decide : (2 : Int64) = ((2 : Int32).toInt64)))).1) (by decide) (by decide) ?_
        show own_S p e below T106 m 176 #[iv p1, iv p2, iv (3 : Int32), rv b2, iv (2 : Int32), .val (.double (4604180019048437077 : UInt64)), .second, .unset, .unset] [] _
        refine XS.iloadN X106.here hx rfl (hb hby at_176) rfl ?_
        show own_S p e below T106 m 177 #[iv p1, iv p2, iv (3 : Int32), rv b2, iv (2 : Int32), .val (.double (4604180019048437077 : UInt64)), .second, .unset, .unset] [(.int (3 : Int32))] _
        refine XS.ifYes X106.here hx rfl (pc0 := 177) (pc' := 194) rfl (hb hby at_177) rfl ((if0 _ _).trans (feq (by decide : ¬ ((3 : Int32) = (0 : Int32)))).2) (by decide) (by decide) ?_
        show own_S p e below T106 m 194 #[iv p1, iv p2, iv (3 : Int32), rv b2, iv (2 : Int32), .val (.double (4604180019048437077 : UInt64)), .second, .unset, .unset] [] _
        refine XS.iloadN X106.here hx rfl (hb hby at_194) rfl ?_
        show own_S p e below T106 m 195 #[iv p1, iv p2, iv (3 : Int32), rv b2, iv (2 : Int32), .val (.double (4604180019048437077 : UInt64)), .second, .unset, .unset] [(.int (3 : Int32))] _
        refine XS.iload X106.here hx rfl (hb hby at_195) rfl ?_
        show own_S p e below T106 m 197 #[iv p1, iv p2, iv (3 : Int32), rv b2, iv (2 : Int32), .val (.double (4604180019048437077 : UInt64)), .second, .unset, .unset] [(.int (2 : Int32)), (.int (3 : Int32))] _
        refine st107 _ ?_
        show own_S p e below T107 m 200 #[iv p1, iv p2, iv (3 : Int32), rv b2, iv (2 : Int32), .val (.double (4604180019048437077 : UInt64)), .second, .unset, .unset] [(.double (4604180019048437077 : UInt64))] _
        refine XS.dstore X107.here hx rfl (hb hby at_200) rfl (l' := #[iv p1, iv p2, iv (3 : Int32), rv b2, iv (2 : Int32), .val (.double (4604180019048437077 : UInt64)), .second, .val (.double (4604180019048437077 : UInt64)), .second]) rfl ?_
        show own_S p e below T107 m 202 #[iv p1, iv p2, iv (3 : Int32), rv b2, iv (2 : Int32), .val (.double (4604180019048437077 : UInt64)), .second, .val (.double (4604180019048437077 : UInt64)), .second] [] _
        refine XS.dload X107.here hx rfl (hb hby at_202) rfl ?_
        show own_S p e below T107 m 204 #[iv p1, iv p2, iv (3 : Int32), rv b2, iv (2 : Int32), .val (.double (4604180019048437077 : UInt64)), .second, .val (.double (4604180019048437077 : UInt64)), .second] [(.double (4604180019048437077 : UInt64))] _
        refine XS.dload X107.here hx rfl (hb hby at_204) rfl ?_
        show own_S p e below T107 m 206 #[iv p1, iv p2, iv (3 : Int32), rv b2, iv (2 : Int32), .val (.double (4604180019048437077 : UInt64)), .second, .val (.double (4604180019048437077 : UInt64)), .second] [(.double (4604180019048437077 : UInt64)), (.double (4604180019048437077 : UInt64))] _
        refine XS.dcmpS X107.here hx rfl (hb hby at_206) rfl (v := (0 : Int32)) (by decide +kernel) ?_
        show own_S p e below T107 m 207 #[iv p1, iv p2, iv (3 : Int32), rv b2, iv (2 : Int32), .val (.double (4604180019048437077 : UInt64)), .second, .val (.double (4604180019048437077 : UInt64)), .second] [(.int (0 : Int32))] _
        refine XS.ifNo X107.here hx rfl (hb hby at_207) rfl ((if0 _ _).trans (teq (by decide : (0 : Int32) = (0 : Int32))).2) ?_
        show own_S p e below T107 m 210 #[iv p1, iv p2, iv (3 : Int32), rv b2, iv (2 : Int32), .val (.double (4604180019048437077 : UInt64)), .second, .val (.double (4604180019048437077 : UInt64)), .second] [] _
        refine XS.dconst0 X107.here hx rfl (hb hby at_210) (v := (0 : UInt64)) rfl ?_
        show own_S p e below T107 m 211 #[iv p1, iv p2, iv (3 : Int32), rv b2, iv (2 : Int32), .val (.double (4604180019048437077 : UInt64)), .second, .val (.double (4604180019048437077 : UInt64)), .second] [(.double (0 : UInt64))] _
        refine XS.dload X107.here hx rfl (hb hby at_211) rfl ?_
        show own_S p e below T107 m 213 #[iv p1, iv p2, iv (3 : Int32), rv b2, iv (2 : Int32), .val (.double (4604180019048437077 : UInt64)), .second, .val (.double (4604180019048437077 : UInt64)), .second] [(.double (4604180019048437077 : UInt64)), (.double (0 : UInt64))] _
        refine XS.dcmpS X107.here hx rfl (hb hby at_213) rfl (v := (-1 : Int32)) (by decide +kernel) ?_
        show own_S p e below T107 m 214 #[iv p1, iv p2, iv (3 : Int32), rv b2, iv (2 : Int32), .val (.double (4604180019048437077 : UInt64)), .second, .val (.double (4604180019048437077 : UInt64)), .second] [(.int (-1 : Int32))] _
        refine XS.ifNo X107.here hx rfl (hb hby at_214) rfl ((if0 _ _).trans (flt (by decide : ¬ ((0 : Int32) < (-1 : Int32)))).2.2.1) ?_
        show own_S p e below T107 m 217 #[iv p1, iv p2, iv (3 : Int32), rv b2, iv (2 : Int32), .val (.double (4604180019048437077 : UInt64)), .second, .val (.double (4604180019048437077 : UInt64)), .second] [] _
        refine XS.dload X107.here hx rfl (hb hby at_217) rfl ?_
        show own_S p e below T107 m 219 #[iv p1, iv p2, iv (3 : Int32), rv b2, iv (2 : Int32), .val (.double (4604180019048437077 : UInt64)), .second, .val (.double (4604180019048437077 : UInt64)), .second] [(.double (4604180019048437077 : UInt64))] _
        refine XS.dconst1 X107.here hx rfl (hb hby at_219) (v := (4607182418800017408 : UInt64)) rfl ?_
        show own_S p e below T107 m 220 #[iv p1, iv p2, iv (3 : Int32), rv b2, iv (2 : Int32), .val (.double (4604180019048437077 : UInt64)), .second, .val (.double (4604180019048437077 : UInt64)), .second] [(.double (4607182418800017408 : UInt64)), (.double (4604180019048437077 : UInt64))] _
        refine XS.dcmpS X107.here hx rfl (hb hby at_220) rfl (v := (-1 : Int32)) (by decide +kernel) ?_
        show own_S p e below T107 m 221 #[iv p1, iv p2, iv (3 : Int32), rv b2, iv (2 : Int32), .val (.double (4604180019048437077 : UInt64)), .second, .val (.double (4604180019048437077 : UInt64)), .second] [(.int (-1 : Int32))] _
        refine XS.ifNo X107.here hx rfl (hb hby at_221) rfl ((if0 _ _).trans (flt (by decide : ¬ ((0 : Int32) < (-1 : Int32)))).2.2.1) ?_
        show own_S p e below T107 m 224 #[iv p1, iv p2, iv (3 : Int32), rv b2, iv (2 : Int32), .val (.double (4604180019048437077 : UInt64)), .second, .val (.double (4604180019048437077 : UInt64)), .second] [] _
        refine XS.iconst X107.here hx rfl (hb hby at_224) ?_
        show own_S p e below T107 m 225 #[iv p1, iv p2, iv (3 : Int32), rv b2, iv (2 : Int32), .val (.double (4604180019048437077 : UInt64)), .second, .val (.double (4604180019048437077 : UInt64)), .second] [(.int (1 : Int32))] _
        refine XS.goto X107.here hx rfl (pc0 := 225) (pc' := 229) rfl (hb hby at_225) (by decide) (by decide) ?_
        exact k)
      obtain ⟨fs, hr, hrun, hended, hW, hsame⟩ := X107.leave (v := some (.int (nar .boolean (1 : Int32)))) (fun h => by rw [Bd.returns] at h; cases h)
      refine ⟨_, _, pre108 _ ?_, hrun, hended, _, _, rfl, ?_, ⟨_, rfl⟩, hW, hsame.mono (by decide) (by decide)⟩
      · show own_S p e below T107 m 229 #[iv p1, iv p2, iv (3 : Int32), rv b2, iv (2 : Int32), .val (.double (4604180019048437077 : UInt64)), .second, .val (.double (4604180019048437077 : UInt64)), .second] [(.int (1 : Int32))] _
        exact retN X107 hx (t := .boolean) Bd.returns (by simp) (hb hby at_229) hr
      · show Q0 Z p1 p2 h0 n0 _ T107.heap _
        rw [e107]
        exact ⟨rfl, N107⟩
    ·  -- case
      have Zs110 : n0 ≤ hj81.size := (Nat.le_trans (Nat.le_trans (Nat.le_trans Zs4 Kj65.1) Kj72.1) Kj81.1)
      obtain ⟨cq109, kq109, q109a, q109b, q109c⟩ := isOf hZ ej81 Fj81_0
      obtain ⟨_, _, ⟨T109, L109, k109, n109⟩, -, X109, ⟨Lc109, hQ109, l109, y109, z109⟩, st109⟩ := Xj81.virtualBack hx (y := (⟨"com/example/clockwright/clockwright/mcmc/Acceptance", "rate", "()D"⟩ : MethodName)) (z := (⟨"com/example/clockwright/clockwright/mcmc/Acceptance", "rate", "()D"⟩ : MethodName)) hown (mvT hZ (hw _ (List.mem_of_getElem? (i := 10) rfl))) (mvT hZ (hw _ (List.mem_of_getElem? (i := 11) rfl))) (notFace_of_selects (args := #[]) (mvT hZ (hw _ (List.mem_of_getElem? (i := 13) rfl)))) (mvT hZ (hw _ (List.mem_of_getElem? (i := 13) rfl))) (mvT hZ (hw _ (List.mem_of_getElem? (i := 12) rfl))) (by decide) (backOf (W := 0) (rmR1 l Z a0 hw [] b2 (3 : Int64) (3 : Int64) hj81 n0 Zs110 Fj81_1 Fj81_2 (by decide) (by unfold Jvm.Free.Fl.NoNaN64; decide +kernel)) hZ (hw _ (List.mem_of_getElem? (i := 14) rfl)) (hw _ (List.mem_of_getElem? (i := 3) rfl)) (by decide) (by decide)) q109a q109c (g := (mkF m 148 #[iv p1, iv p2, iv (3 : Int32), rv b2, iv (3 : Int32), iv fz_3, .unset, .unset, .unset] [(.ref b2)])) rfl (by rw [hml]; rfl) (Steps.refl _) (argsL := []) (rest := []) (lenOf pd_1 rfl) rfl (by show 2 * 0 + _ ≤ _; exact Nat.le_of_eq rfl) (hb hby at_148) (fun _ _ => ⟨rfl, ej81, (by decide : 1 + 0 ≤ _), (by decide : 2 + 0 ≤ _)⟩)
      dsimp only [Pt.U, Pt.locs, Pt.cells, Pt.slots] at X109 l109 y109 z109 st109 hQ109
      subst l109 y109 z109
      obtain ⟨hv109, N109q, e109q⟩ := hQ109
      have N109 := Fr.app Nj81 N109q
      rw [show FP.ddiv (FP.l2d (3 : Int64)) (FP.l2d (3 : Int64)) = (4607182418800017408 : UInt64) from by decide +kernel] at hv109
      subst hv109
      have e109 : T109.heap = hj81 := e109q
      obtain ⟨cq111, kq111, q111a, q111b, q111c⟩ := isOf hZ e109 Fj81_0
      obtain ⟨_, _, ⟨T111, L111, k111, n111⟩, -, X111, ⟨Lc111, hQ111, l111, y111, z111⟩, st111⟩ := X109.virtualBack hx (y := (⟨"com/example/clockwright/clockwright/mcmc/Acceptance", "proposals", "()J"⟩ : MethodName)) (z := (⟨"com/example/clockwright/clockwright/mcmc/Acceptance", "proposals", "()J"⟩ : MethodName)) hown (mvT hZ (hw _ (List.mem_of_getElem? (i := 18) rfl))) (mvT hZ (hw _ (List.mem_of_getElem? (i := 19) rfl))) (notFace_of_selects (args := #[]) (mvT hZ (hw _ (List.mem_of_getElem? (i := 21) rfl)))) (mvT hZ (hw _ (List.mem_of_getElem? (i := 21) rfl))) (mvT hZ (hw _ (List.mem_of_getElem? (i := 20) rfl))) (by decide) (backOf (W := 0) (rm4 l Z a0 hw [] b2 (3 : Int64) hj81 n0 Zs110 Fj81_1) hZ (hw _ (List.mem_of_getElem? (i := 22) rfl)) (hw _ (List.mem_of_getElem? (i := 3) rfl)) (by decide) (by decide)) q111a q111c (g := (mkF m 154 #[iv p1, iv p2, iv (3 : Int32), rv b2, iv (3 : Int32), .val (.double (4607182418800017408 : UInt64)), .second, .unset, .unset] [(.ref b2)])) rfl (by rw [hml]; rfl) (Steps.refl _) (argsL := []) (rest := []) (lenOf pd_2 rfl) rfl (by show 2 * 0 + _ ≤ _; exact Nat.le_of_eq rfl) (hb hby at_154) (fun _ _ => ⟨rfl, e109, (by decide : 1 + 0 ≤ _), (by decide : 2 + 0 ≤ _)⟩)
      dsimp only [Pt.U, Pt.locs, Pt.cells, Pt.slots] at X111 l111 y111 z111 st111 hQ111
      subst l111 y111 z111
      obtain ⟨rfl, N111q, e111q⟩ := hQ111
      have N111 := Fr.app N109 N111q
      have e111 : T111.heap = hj81 := e111q
      obtain ⟨cq112, kq112, q112a, q112b, q112c⟩ := isOf hZ e111 Fj81_0
      obtain ⟨_, _, ⟨T112, L112, k112, n112⟩, -, X112, ⟨Lc112, hQ112, l112, y112, z112⟩, st112⟩ := X111.virtualBack hx (y := (⟨"com/example/clockwright/clockwright/mcmc/Acceptance", "accepted", "()J"⟩ : MethodName)) (z := (⟨"com/example/clockwright/clockwright/mcmc/Acceptance", "accepted", "()J"⟩ : MethodName)) hown (mvT hZ (hw _ (List.mem_of_getElem? (i := 23) rfl))) (mvT hZ (hw _ (List.mem_of_getElem? (i := 24) rfl))) (notFace_of_selects (args := #[]) (mvT hZ (hw _ (List.mem_of_getElem? (i := 26) rfl)))) (mvT hZ (hw _ (List.mem_of_getElem? (i := 26) rfl))) (mvT hZ (hw _ (List.mem_of_getElem? (i := 25) rfl))) (by decide) (backOf (W := 0) (rm5 l Z a0 hw [] b2 (3 : Int64) hj81 n0 Zs110 Fj81_2) hZ (hw _ (List.mem_of_getElem? (i := 27) rfl)) (hw _ (List.mem_of_getElem? (i := 3) rfl)) (by decide) (by decide)) q112a q112c (g := (mkF m 164 #[iv p1, iv p2, iv (3 : Int32), rv b2, iv (3 : Int32), .val (.double (4607182418800017408 : UInt64)), .second, .unset, .unset] [(.ref b2)])) rfl (by rw [hml]; rfl) (Steps.refl _) (argsL := []) (rest := []) (lenOf pd_2 rfl) rfl (by show 2 * 0 + _ ≤ _; exact Nat.le_of_eq rfl) (hb hby at_164) (fun _ _ => ⟨rfl, e111, (by decide : 1 + 0 ≤ _), (by decide : 2 + 0 ≤ _)⟩)
      dsimp only [Pt.U, Pt.locs, Pt.cells, Pt.slots] at X112 l112 y112 z112 st112 hQ112
      subst l112 y112 z112
      obtain ⟨rfl, N112q, e112q⟩ := hQ112
      have N112 := Fr.app N111 N112q
      have e112 : T112.heap = hj81 := e112q
      obtain ⟨_, _, ⟨T113, L113, k113, n113⟩, -, X113, ⟨Lc113, hQ113, l113, y113, z113⟩, st113⟩ := Jvm.LawKit.callS X112 hx (y := (⟨"com/example/clockwright/clockwright/mcmc/AcceptanceRatePinLaw", "expected", "(II)D"⟩ : MethodName)) hown (mvT hZ (hw _ (List.mem_of_getElem? (i := 35) rfl))) (mvT hZ (hw _ (List.mem_of_getElem? (i := 36) rfl))) (mvT hZ (hw _ (List.mem_of_getElem? (i := 37) rfl))) (mvT hZ (hw _ (List.mem_of_getElem? (i := 38) rfl))) (by decide) (backOf (W := 0) (rm7 l Z a0 hw [] (3 : Int32) (3 : Int32) hj81 n0 Zs110 ) hZ (hw _ (List.mem_of_getElem? (i := 38) rfl)) (hw _ (List.mem_of_getElem? (i := 37) rfl)) (by decide) (by decide)) (g := (mkF m 197 #[iv p1, iv p2, iv (3 : Int32), rv b2, iv (3 : Int32), .val (.double (4607182418800017408 : UInt64)), .second, .unset, .unset] [(.int (3 : Int32)), (.int (3 : Int32))])) rfl (by rw [hml]; rfl) (argsL := [(.int (3 : Int32)), (.int (3 : Int32))]) (rest := []) (lenOf pd_4 rfl) rfl (by show 2 * 0 + _ ≤ _; exact Nat.le_of_eq rfl) (hb hby at_197) (fun _ _ => ⟨rfl, e112, (by decide : 1 + 0 ≤ _), (by decide : 2 + 0 ≤ _)⟩)
      dsimp only [Pt.U, Pt.locs, Pt.cells, Pt.slots] at X113 l113 y113 z113 st113 hQ113
      subst l113 y113 z113
      obtain ⟨hv113, N113q, e113q⟩ := hQ113
      have N113 := Fr.app N112 N113q
      rw [show own_exp (3 : Int32) (3 : Int32) = (4607182418800017408 : UInt64) from by decide] at hv113
      subst hv113
      have e113 : T113.heap = hj81 := e113q
      have pre114 : ∀ tg, own_S p e below T113 m 229 #[iv p1, iv p2, iv (3 : Int32), rv b2, iv (3 : Int32), .val (.double (4607182418800017408 : UInt64)), .second, .val (.double (4607182418800017408 : UInt64)), .second] [(.int (1 : Int32))] tg → Steps p.tables e below (s₁.setTop (entryFrame m #[(.int p1), (.int p2)] maxLocals)) tg := fun tg k => pre90 tg (by
        show own_S p e below Tj81 m 147 #[iv p1, iv p2, iv (3 : Int32), rv b2, iv (3 : Int32), iv fz_3, .unset, .unset, .unset] [] _
        refine XS.aloadN Xj81.here hx rfl (hb hby at_147) rfl rfl ?_
        show own_S p e below Tj81 m 148 #[iv p1, iv p2, iv (3 : Int32), rv b2, iv (3 : Int32), iv fz_3, .unset, .unset, .unset] [(.ref b2)] _
        refine st109.trans ?_
        show own_S p e below T109 m 151 #[iv p1, iv p2, iv (3 : Int32), rv b2, iv (3 : Int32), iv fz_3, .unset, .unset, .unset] [(.double (4607182418800017408 : UInt64))] _
        refine XS.dstore X109.here hx rfl (hb hby at_151) rfl (l' := #[iv p1, iv p2, iv (3 : Int32), rv b2, iv (3 : Int32), .val (.double (4607182418800017408 : UInt64)), .second, .unset, .unset]) rfl ?_
        show own_S p e below T109 m 153 #[iv p1, iv p2, iv (3 : Int32), rv b2, iv (3 : Int32), .val (.double (4607182418800017408 : UInt64)), .second, .unset, .unset] [] _
        refine XS.aloadN X109.here hx rfl (hb hby at_153) rfl rfl ?_
        show own_S p e below T109 m 154 #[iv p1, iv p2, iv (3 : Int32), rv b2, iv (3 : Int32), .val (.double (4607182418800017408 : UInt64)), .second, .unset, .unset] [(.ref b2)] _
        refine st111.trans ?_
        show own_S p e below T111 m 157 #[iv p1, iv p2, iv (3 : Int32), rv b2, iv (3 : Int32), .val (.double (4607182418800017408 : UInt64)), .second, .unset, .unset] [(.long (3 : Int64))] _
        refine XS.iloadN X111.here hx rfl (hb hby at_157) rfl ?_
        show own_S p e below T111 m 158 #[iv p1, iv p2, iv (3 : Int32), rv b2, iv (3 : Int32), .val (.double (4607182418800017408 : UInt64)), .second, .unset, .unset] [(.int (3 : Int32)), (.long (3 : Int64))] _
        refine XS.i2l X111.here hx rfl (hb hby at_158) rfl ?_
        show own_S p e below T111 m 159 #[iv p1, iv p2, iv (3 : Int32), rv b2, iv (3 : Int32), .val (.double (4607182418800017408 : UInt64)), .second, .unset, .unset] [(.long ((3 : Int32).toInt64)), (.long (3 : Int64))] _
        refine XS.lcmp X111.here hx rfl (hb hby at_159) rfl ?_
        show own_S p e below T111 m 160 #[iv p1, iv p2, iv (3 : Int32), rv b2, iv (3 : Int32), .val (.double (4607182418800017408 : UInt64)), .second, .unset, .unset] [(.int (lcmpW (3 : Int64) ((3 : Int32).toInt64)))] _
        refine XS.ifNo X111.here hx rfl (hb hby at_160) rfl ((if0 _ _).trans (teq ((lw_eq _ _).mpr (by decide : (3 : Int64) = ((3 : Int32).toInt64)))).2) ?_
        show own_S p e below T111 m 163 #[iv p1, iv p2, iv (3 : Int32), rv b2, iv (3 : Int32), .val (.double (4607182418800017408 : UInt64)), .second, .unset, .unset] [] _
        refine XS.aloadN X111.here hx rfl (hb hby at_163) rfl rfl ?_
        show own_S p e below T111 m 164 #[iv p1, iv p2, iv (3 : Int32), rv b2, iv (3 : Int32), .val (.double (4607182418800017408 : UInt64)), .second, .unset, .unset] [(.ref b2)] _
        refine st112.trans ?_
        show own_S p e below T112 m 167 #[iv p1, iv p2, iv (3 : Int32), rv b2, iv (3 : Int32), .val (.double (4607182418800017408 : UInt64)), .second, .unset, .unset] [(.long (3 : Int64))] _
        refine XS.iload X112.here hx rfl (hb hby at_167) rfl ?_
        show own_S p e below T112 m 169 #[iv p1, iv p2, iv (3 : Int32), rv b2, iv (3 : Int32), .val (.double (4607182418800017408 : UInt64)), .second, .unset, .unset] [(.int (3 : Int32)), (.long (3 : Int64))] _
        refine XS.i2l X112.here hx rfl (hb hby at_169) rfl ?_
        show own_S p e below T112 m 170 #[iv p1, iv p2, iv (3 : Int32), rv b2, iv (3 : Int32), .val (.double (4607182418800017408 : UInt64)), .second, .unset, .unset] [(.long ((3 : Int32).toInt64)), (.long (3 : Int64))] _
        refine XS.lcmp X112.here hx rfl (hb hby at_170) rfl ?_
        show own_S p e below T112 m 171 #[iv p1, iv p2, iv (3 : Int32), rv b2, iv (3 : Int32), .val (.double (4607182418800017408 : UInt64)), .second, .unset, .unset] [(.int (lcmpW (3 : Int64) ((3 : Int32).toInt64)))] _
        refine XS.ifYes X112.here hx rfl (pc0 := 171) (pc' := 176) rfl (hb hby at_171) rfl ((if0 _ _).trans (teq ((lw_eq _ _).mpr (by decide : (3 : Int64) = ((3 : Int32).toInt64)))).1) (by decide) (by decide) ?_
        show own_S p e below T112 m 176 #[iv p1, iv p2, iv (3 : Int32), rv b2, iv (3 : Int32), .val (.double (4607182418800017408 : UInt64)), .second, .unset, .unset] [] _
        refine XS.iloadN X112.here hx rfl (hb hby at_176) rfl ?_
        show own_S p e below T112 m 177 #[iv p1, iv p2, iv (3 : Int32), rv b2, iv (3 : Int32), .val (.double (4607182418800017408 : UInt64)), .second, .unset, .unset] [(.int (3 : Int32))] _
        refine XS.ifYes X112.here hx rfl (pc0 := 177) (pc' := 194) rfl (hb hby at_177) rfl ((if0 _ _).trans (feq (by decide : ¬ ((3 : Int32) = (0 : Int32)))).2) (by decide) (by decide) ?_
        show own_S p e below T112 m 194 #[iv p1, iv p2, iv (3 : Int32), rv b2, iv (3 : Int32), .val (.double (4607182418800017408 : UInt64)), .second, .unset, .unset] [] _
        refine XS.iloadN X112.here hx rfl (hb hby at_194) rfl ?_
        show own_S p e below T112 m 195 #[iv p1, iv p2, iv (3 : Int32), rv b2, iv (3 : Int32), .val (.double (4607182418800017408 : UInt64)), .second, .unset, .unset] [(.int (3 : Int32))] _
        refine XS.iload X112.here hx rfl (hb hby at_195) rfl ?_
        show own_S p e below T112 m 197 #[iv p1, iv p2, iv (3 : Int32), rv b2, iv (3 : Int32), .val (.double (4607182418800017408 : UInt64)), .second, .unset, .unset] [(.int (3 : Int32)), (.int (3 : Int32))] _
        refine st113 _ ?_
        show own_S p e below T113 m 200 #[iv p1, iv p2, iv (3 : Int32), rv b2, iv (3 : Int32), .val (.double (4607182418800017408 : UInt64)), .second, .unset, .unset] [(.double (4607182418800017408 : UInt64))] _
        refine XS.dstore X113.here hx rfl (hb hby at_200) rfl (l' := #[iv p1, iv p2, iv (3 : Int32), rv b2, iv (3 : Int32), .val (.double (4607182418800017408 : UInt64)), .second, .val (.double (4607182418800017408 : UInt64)), .second]) rfl ?_
        show own_S p e below T113 m 202 #[iv p1, iv p2, iv (3 : Int32), rv b2, iv (3 : Int32), .val (.double (4607182418800017408 : UInt64)), .second, .val (.double (4607182418800017408 : UInt64)), .second] [] _
        refine XS.dload X113.here hx rfl (hb hby at_202) rfl ?_
        show own_S p e below T113 m 204 #[iv p1, iv p2, iv (3 : Int32), rv b2, iv (3 : Int32), .val (.double (4607182418800017408 : UInt64)), .second, .val (.double (4607182418800017408 : UInt64)), .second] [(.double (4607182418800017408 : UInt64))] _
        refine XS.dload X113.here hx rfl (hb hby at_204) rfl ?_
        show own_S p e below T113 m 206 #[iv p1, iv p2, iv (3 : Int32), rv b2, iv (3 : Int32), .val (.double (4607182418800017408 : UInt64)), .second, .val (.double (4607182418800017408 : UInt64)), .second] [(.double (4607182418800017408 : UInt64)), (.double (4607182418800017408 : UInt64))] _
        refine XS.dcmpS X113.here hx rfl (hb hby at_206) rfl (v := (0 : Int32)) (by decide +kernel) ?_
        show own_S p e below T113 m 207 #[iv p1, iv p2, iv (3 : Int32), rv b2, iv (3 : Int32), .val (.double (4607182418800017408 : UInt64)), .second, .val (.double (4607182418800017408 : UInt64)), .second] [(.int (0 : Int32))] _
        refine XS.ifNo X113.here hx rfl (hb hby at_207) rfl ((if0 _ _).trans (teq (by decide : (0 : Int32) = (0 : Int32))).2) ?_
        show own_S p e below T113 m 210 #[iv p1, iv p2, iv (3 : Int32), rv b2, iv (3 : Int32), .val (.double (4607182418800017408 : UInt64)), .second, .val (.double (4607182418800017408 : UInt64)), .second] [] _
        refine XS.dconst0 X113.here hx rfl (hb hby at_210) (v := (0 : UInt64)) rfl ?_
        show own_S p e below T113 m 211 #[iv p1, iv p2, iv (3 : Int32), rv b2, iv (3 : Int32), .val (.double (4607182418800017408 : UInt64)), .second, .val (.double (4607182418800017408 : UInt64)), .second] [(.double (0 : UInt64))] _
        refine XS.dload X113.here hx rfl (hb hby at_211) rfl ?_
        show own_S p e below T113 m 213 #[iv p1, iv p2, iv (3 : Int32), rv b2, iv (3 : Int32), .val (.double (4607182418800017408 : UInt64)), .second, .val (.double (4607182418800017408 : UInt64)), .second] [(.double (4607182418800017408 : UInt64)), (.double (0 : UInt64))] _
        refine XS.dcmpS X113.here hx rfl (hb hby at_213) rfl (v := (-1 : Int32)) (by decide +kernel) ?_
        show own_S p e below T113 m 214 #[iv p1, iv p2, iv (3 : Int32), rv b2, iv (3 : Int32), .val (.double (4607182418800017408 : UInt64)), .second, .val (.double (4607182418800017408 : UInt64)), .second] [(.int (-1 : Int32))] _
        refine XS.ifNo X113.here hx rfl (hb hby at_214) rfl ((if0 _ _).trans (flt (by decide : ¬ ((0 : Int32) < (-1 : Int32)))).2.2.1) ?_
        show own_S p e below T113 m 217 #[iv p1, iv p2, iv (3 : Int32), rv b2, iv (3 : Int32), .val (.double (4607182418800017408 : UInt64)), .second, .val (.double (4607182418800017408 : UInt64)), .second] [] _
        refine XS.dload X113.here hx rfl (hb hby at_217) rfl ?_
        show own_S p e below T113 m 219 #[iv p1, iv p2, iv (3 : Int32), rv b2, iv (3 : Int32), .val (.double (4607182418800017408 : UInt64)), .second, .val (.double (4607182418800017408 : UInt64)), .second] [(.double (4607182418800017408 : UInt64))] _
        refine XS.dconst1 X113.here hx rfl (hb hby at_219) (v := (4607182418800017408 : UInt64)) rfl ?_
        show own_S p e below T113 m 220 #[iv p1, iv p2, iv (3 : Int32), rv b2, iv (3 : Int32), .val (.double (4607182418800017408 : UInt64)), .second, .val (.double (4607182418800017408 : UInt64)), .second] [(.double (4607182418800017408 : UInt64)), (.double (4607182418800017408 : UInt64))] _
        refine XS.dcmpS X113.here hx rfl (hb hby at_220) rfl (v := (0 : Int32)) (by decide +kernel) ?_
        show own_S p e below T113 m 221 #[iv p1, iv p2, iv (3 : Int32), rv b2, iv (3 : Int32), .val (.double (4607182418800017408 : UInt64)), .second, .val (.double (4607182418800017408 : UInt64)), .second] [(.int (0 : Int32))] _
        refine XS.ifNo X113.here hx rfl (hb hby at_221) rfl ((if0 _ _).trans (flt (by decide : ¬ ((0 : Int32) < (0 : Int32)))).2.2.1) ?_
        show own_S p e below T113 m 224 #[iv p1, iv p2, iv (3 : Int32), rv b2, iv (3 : Int32), .val (.double (4607182418800017408 : UInt64)), .second, .val (.double (4607182418800017408 : UInt64)), .second] [] _
        refine XS.iconst X113.here hx rfl (hb hby at_224) ?_
        show own_S p e below T113 m 225 #[iv p1, iv p2, iv (3 : Int32), rv b2, iv (3 : Int32), .val (.double (4607182418800017408 : UInt64)), .second, .val (.double (4607182418800017408 : UInt64)), .second] [(.int (1 : Int32))] _
        refine XS.goto X113.here hx rfl (pc0 := 225) (pc' := 229) rfl (hb hby at_225) (by decide) (by decide) ?_
        exact k)
      obtain ⟨fs, hr, hrun, hended, hW, hsame⟩ := X113.leave (v := some (.int (nar .boolean (1 : Int32)))) (fun h => by rw [Bd.returns] at h; cases h)
      refine ⟨_, _, pre114 _ ?_, hrun, hended, _, _, rfl, ?_, ⟨_, rfl⟩, hW, hsame.mono (by decide) (by decide)⟩
      · show own_S p e below T113 m 229 #[iv p1, iv p2, iv (3 : Int32), rv b2, iv (3 : Int32), .val (.double (4607182418800017408 : UInt64)), .second, .val (.double (4607182418800017408 : UInt64)), .second] [(.int (1 : Int32))] _
        exact retN X113 hx (t := .boolean) Bd.returns (by simp) (hb hby at_229) hr
      · show Q0 Z p1 p2 h0 n0 _ T113.heap _
        rw [e113]
        exact ⟨rfl, N113⟩
  ·  -- case
    obtain ⟨Tj115, hj115, Lj115, Xj115, ej115, Nj115, Kj115, a_1, A_1, fz_1, h_a_1, Fj115_0, Fj115_1, Fj115_2, prej115⟩ : ∃ (Tj : State) (hj : Heap) (Lj : List Loc), Stand p l e room_1 s m #[(.int p1), (.int p2)] below meth c Tj Lj 1 2 ∧ Tj.heap = hj ∧ Fr n0 Lj ∧ Keep h2 hj [b2] ∧ ∃ a_1 : Int32, ∃ A_1 : Int64, ∃ fz_1 : Int32, ((a_1 = 0 ∧ A_1 = 0) ∨ (a_1 = 1 ∧ A_1 = 1)) ∧ (Exa Z hj b2 "com/example/clockwright/clockwright/mcmc/Acceptance") ∧ (Fld Z hj b2 "com/example/clockwright/clockwright/mcmc/Acceptance" "proposals" "J" (.long (1 : Int64))) ∧ (Fld Z hj b2 "com/example/clockwright/clockwright/mcmc/Acceptance" "accepted" "J" (.long A_1)) ∧ ∀ tg, own_S p e below Tj m 50 #[iv p1, iv p2, iv (4 : Int32), rv b2, iv a_1, iv fz_1, .unset, .unset, .unset] [] tg → Steps p.tables e below (s₁.setTop (entryFrame m #[(.int p1), (.int p2)] maxLocals)) tg := by
      have pre117 : ∀ tg, own_S p e below T3 m 26 #[iv p1, iv p2, iv (4 : Int32), rv b2, iv (0 : Int32), .unset, .unset, .unset, .unset] [(.int (p2 &&& (1 : Int32)))] tg → Steps p.tables e below (s₁.setTop (entryFrame m #[(.int p1), (.int p2)] maxLocals)) tg := fun tg k => pre5 tg (by
        show own_S p e below T3 m 18 #[iv p1, iv p2, iv (4 : Int32), rv b2, iv (0 : Int32), .unset, .unset, .unset, .unset] [] _
        refine XS.iloadN X3.here hx rfl (hb hby at_18) rfl ?_
        show own_S p e below T3 m 19 #[iv p1, iv p2, iv (4 : Int32), rv b2, iv (0 : Int32), .unset, .unset, .unset, .unset] [(.int (4 : Int32))] _
        refine XS.iconst X3.here hx rfl (hb hby at_19) ?_
        show own_S p e below T3 m 20 #[iv p1, iv p2, iv (4 : Int32), rv b2, iv (0 : Int32), .unset, .unset, .unset, .unset] [(.int (1 : Int32)), (.int (4 : Int32))] _
        refine XS.icmpNo X3.here hx rfl (hb hby at_20) rfl (flt (by decide : ¬ ((4 : Int32) < (1 : Int32)))).1 ?_
        show own_S p e below T3 m 23 #[iv p1, iv p2, iv (4 : Int32), rv b2, iv (0 : Int32), .unset, .unset, .unset, .unset] [] _
        refine XS.iloadN X3.here hx rfl (hb hby at_23) rfl ?_
        show own_S p e below T3 m 24 #[iv p1, iv p2, iv (4 : Int32), rv b2, iv (0 : Int32), .unset, .unset, .unset, .unset] [(.int p2)] _
        refine XS.iconst X3.here hx rfl (hb hby at_24) ?_
        show own_S p e below T3 m 25 #[iv p1, iv p2, iv (4 : Int32), rv b2, iv (0 : Int32), .unset, .unset, .unset, .unset] [(.int (1 : Int32)), (.int p2)] _
        refine XS.iand X3.here hx rfl (hb hby at_25) rfl ?_
        exact k)
      by_cases hc26_116 : (p2 &&& (1 : Int32)) = (0 : Int32)
      ·  -- pc 26 yes
        obtain ⟨cq118, kq118, q118a, q118b, q118c⟩ := isOf hZ e3 A2
        obtain ⟨_, _, ⟨T118, L118, k118, n118⟩, -, X118, ⟨Lc118, hQ118, l118, y118, z118⟩, st118⟩ := X3.virtualBack hx (y := (⟨"com/example/clockwright/clockwright/mcmc/Acceptance", "count", "(Z)V"⟩ : MethodName)) (z := (⟨"com/example/clockwright/clockwright/mcmc/Acceptance", "count", "(Z)V"⟩ : MethodName)) hown (mvT hZ (hw _ (List.mem_of_getElem? (i := 30) rfl))) (mvT hZ (hw _ (List.mem_of_getElem? (i := 31) rfl))) (notFace_of_selects (args := #[]) (mvT hZ (hw _ (List.mem_of_getElem? (i := 33) rfl)))) (mvT hZ (hw _ (List.mem_of_getElem? (i := 33) rfl))) (mvT hZ (hw _ (List.mem_of_getElem? (i := 32) rfl))) (by decide) (backOf (W := 0) (rm6 l Z a0 hw [] b2 (0 : Int32) (0 : Int64) (0 : Int64) h2 n0 Zs4 A2 g_b2 F_proposals_b2 F_accepted_b2) hZ (hw _ (List.mem_of_getElem? (i := 34) rfl)) (hw _ (List.mem_of_getElem? (i := 3) rfl)) (by decide) (by decide)) q118a q118c (g := (mkF m 39 #[iv p1, iv p2, iv (4 : Int32), rv b2, iv (0 : Int32), iv (0 : Int32), .unset, .unset, .unset] [(.int (0 : Int32)), (.ref b2)])) rfl (by rw [hml]; rfl) (Steps.refl _) (argsL := [(.int (0 : Int32))]) (rest := []) (lenOf pd_3 rfl) rfl (by show 2 * 0 + _ ≤ _; exact Nat.le_of_eq rfl) (hb hby at_39) (fun _ _ => ⟨rfl, e3, (by decide : 1 + 0 ≤ _), (by decide : 2 + 0 ≤ _)⟩)
        dsimp only [Pt.U, Pt.locs, Pt.cells, Pt.slots] at X118 l118 y118 z118 st118 hQ118
        subst l118 y118 z118
        obtain ⟨rfl, N118q, K118, E118c, Fp118, Fa118⟩ := hQ118
        have N118 := Fr.app N3 N118q
        rw [show ((0 : Int64) + (1 : Int64)) = (1 : Int64) from by decide] at Fp118
        rw [show ((0 : Int64) + own_one (0 : Int32)) = (0 : Int64) from by simp [own_one]] at Fa118
        have pre119 : ∀ tg, own_S p e below T118 m 50 #[iv p1, iv p2, iv (4 : Int32), rv b2, iv (0 : Int32), iv (0 : Int32), .unset, .unset, .unset] [] tg → Steps p.tables e below (s₁.setTop (entryFrame m #[(.int p1), (.int p2)] maxLocals)) tg := fun tg k => pre117 tg (by
          show own_S p e below T3 m 26 #[iv p1, iv p2, iv (4 : Int32), rv b2, iv (0 : Int32), .unset, .unset, .unset, .unset] [(.int (p2 &&& (1 : Int32)))] _
          refine XS.ifYes X3.here hx rfl (pc0 := 26) (pc' := 33) rfl (hb hby at_26) rfl ((if0 _ _).trans (teq hc26_116).1) (by decide) (by decide) ?_
          show own_S p e below T3 m 33 #[iv p1, iv p2, iv (4 : Int32), rv b2, iv (0 : Int32), .unset, .unset, .unset, .unset] [] _
          refine XS.iconst X3.here hx rfl (hb hby at_33) ?_
          show own_S p e below T3 m 34 #[iv p1, iv p2, iv (4 : Int32), rv b2, iv (0 : Int32), .unset, .unset, .unset, .unset] [(.int (0 : Int32))] _
          refine XS.istore X3.here hx rfl (hb hby at_34) rfl (l' := #[iv p1, iv p2, iv (4 : Int32), rv b2, iv (0 : Int32), iv (0 : Int32), .unset, .unset, .unset]) rfl ?_
          show own_S p e below T3 m 36 #[iv p1, iv p2, iv (4 : Int32), rv b2, iv (0 : Int32), iv (0 : Int32), .unset, .unset, .unset] [] _
          refine XS.aloadN X3.here hx rfl (hb hby at_36) rfl rfl ?_
          show own_S p e below T3 m 37 #[iv p1, iv p2, iv (4 : Int32), rv b2, iv (0 : Int32), iv (0 : Int32), .unset, .unset, .unset] [(.ref b2)] _
          refine XS.iload X3.here hx rfl (hb hby at_37) rfl ?_
          show own_S p e below T3 m 39 #[iv p1, iv p2, iv (4 : Int32), rv b2, iv (0 : Int32), iv (0 : Int32), .unset, .unset, .unset] [(.int (0 : Int32)), (.ref b2)] _
          refine st118.trans ?_
          show own_S p e below T118 m 42 #[iv p1, iv p2, iv (4 : Int32), rv b2, iv (0 : Int32), iv (0 : Int32), .unset, .unset, .unset] [] _
          refine XS.iload X118.here hx rfl (hb hby at_42) rfl ?_
          show own_S p e below T118 m 44 #[iv p1, iv p2, iv (4 : Int32), rv b2, iv (0 : Int32), iv (0 : Int32), .unset, .unset, .unset] [(.int (0 : Int32))] _
          refine XS.ifYes X118.here hx rfl (pc0 := 44) (pc' := 50) rfl (hb hby at_44) rfl ((if0 _ _).trans (teq (by decide : (0 : Int32) = (0 : Int32))).1) (by decide) (by decide) ?_
          exact k)
        exact ⟨T118, _, _, X118, rfl, N118, ((Keep.refl h2 [b2]).trans K118 (allS (Or.inl (List.mem_of_getElem? (i := 0) rfl)) all0)), (0 : Int32), (0 : Int64), (0 : Int32), (by decide), E118c, Fp118, Fa118, pre119⟩
      ·  -- pc 26 no
        obtain ⟨cq120, kq120, q120a, q120b, q120c⟩ := isOf hZ e3 A2
        obtain ⟨_, _, ⟨T120, L120, k120, n120⟩, -, X120, ⟨Lc120, hQ120, l120, y120, z120⟩, st120⟩ := X3.virtualBack hx (y := (⟨"com/example/clockwright/clockwright/mcmc/Acceptance", "count", "(Z)V"⟩ : MethodName)) (z := (⟨"com/example/clockwright/clockwright/mcmc/Acceptance", "count", "(Z)V"⟩ : MethodName)) hown (mvT hZ (hw _ (List.mem_of_getElem? (i := 30) rfl))) (mvT hZ (hw _ (List.mem_of_getElem? (i := 31) rfl))) (notFace_of_selects (args := #[]) (mvT hZ (hw _ (List.mem_of_getElem? (i := 33) rfl)))) (mvT hZ (hw _ (List.mem_of_getElem? (i := 33) rfl))) (mvT hZ (hw _ (List.mem_of_getElem? (i := 32) rfl))) (by decide) (backOf (W := 0) (rm6 l Z a0 hw [] b2 (1 : Int32) (0 : Int64) (0 : Int64) h2 n0 Zs4 A2 g_b2 F_proposals_b2 F_accepted_b2) hZ (hw _ (List.mem_of_getElem? (i := 34) rfl)) (hw _ (List.mem_of_getElem? (i := 3) rfl)) (by decide) (by decide)) q120a q120c (g := (mkF m 39 #[iv p1, iv p2, iv (4 : Int32), rv b2, iv (0 : Int32), iv (1 : Int32), .unset, .unset, .unset] [(.int (1 : Int32)), (.ref b2)])) rfl (by rw [hml]; rfl) (Steps.refl _) (argsL := [(.int (1 : Int32))]) (rest := []) (lenOf pd_3 rfl) rfl (by show 2 * 0 + _ ≤ _; exact Nat.le_of_eq rfl) (hb hby at_39) (fun _ _ => ⟨rfl, e3, (by decide : 1 + 0 ≤ _), (by decide : 2 + 0 ≤ _)⟩)
        dsimp only [Pt.U, Pt.locs, Pt.cells, Pt.slots] at X120 l120 y120 z120 st120 hQ120
        subst l120 y120 z120
        obtain ⟨rfl, N120q, K120, E120c, Fp120, Fa120⟩ := hQ120
        have N120 := Fr.app N3 N120q
        rw [show ((0 : Int64) + (1 : Int64)) = (1 : Int64) from by decide] at Fp120
        rw [show ((0 : Int64) + own_one (1 : Int32)) = ((0 : Int64) + (1 : Int64)) from by simp [own_one]] at Fa120
        have pre121 : ∀ tg, own_S p e below T120 m 50 #[iv p1, iv p2, iv (4 : Int32), rv b2, iv ((0 : Int32) + (1 : Int32)), iv (1 : Int32), .unset, .unset, .unset] [] tg → Steps p.tables e below (s₁.setTop (entryFrame m #[(.int p1), (.int p2)] maxLocals)) tg := fun tg k => pre117 tg (by
          show own_S p e below T3 m 26 #[iv p1, iv p2, iv (4 : Int32), rv b2, iv (0 : Int32), .unset, .unset, .unset, .unset] [(.int (p2 &&& (1 : Int32)))] _
          refine XS.ifNo X3.here hx rfl (hb hby at_26) rfl ((if0 _ _).trans (feq hc26_116).1) ?_
          show own_S p e below T3 m 29 #[iv p1, iv p2, iv (4 : Int32), rv b2, iv (0 : Int32), .unset, .unset, .unset, .unset] [] _
          refine XS.iconst X3.here hx rfl (hb hby at_29) ?_
          show own_S p e below T3 m 30 #[iv p1, iv p2, iv (4 : Int32), rv b2, iv (0 : Int32), .unset, .unset, .unset, .unset] [(.int (1 : Int32))] _
          refine XS.goto X3.here hx rfl (pc0 := 30) (pc' := 34) rfl (hb hby at_30) (by decide) (by decide) ?_
          show own_S p e below T3 m 34 #[iv p1, iv p2, iv (4 : Int32), rv b2, iv (0 : Int32), .unset, .unset, .unset, .unset] [(.int (1 : Int32))] _
          refine XS.istore X3.here hx rfl (hb hby at_34) rfl (l' := #[iv p1, iv p2, iv (4 : Int32), rv b2, iv (0 : Int32), iv (1 : Int32), .unset, .unset, .unset]) rfl ?_
          show own_S p e below T3 m 36 #[iv p1, iv p2, iv (4 : Int32), rv b2, iv (0 : Int32), iv (1 : Int32), .unset, .unset, .unset] [] _
          refine XS.aloadN X3.here hx rfl (hb hby at_36) rfl rfl ?_
          show own_S p e below T3 m 37 #[iv p1, iv p2, iv (4 : Int32), rv b2, iv (0 : Int32), iv (1 : Int32), .unset, .unset, .unset] [(.ref b2)] _
          refine XS.iload X3.here hx rfl (hb hby at_37) rfl ?_
          show own_S p e below T3 m 39 #[iv p1, iv p2, iv (4 : Int32), rv b2, iv (0 : Int32), iv (1 : Int32), .unset, .unset, .unset] [(.int (1 : Int32)), (.ref b2)] _
          refine st120.trans ?_
          show own_S p e below T120 m 42 #[iv p1, iv p2, iv (4 : Int32), rv b2, iv (0 : Int32), iv (1 : Int32), .unset, .unset, .unset] [] _
          refine XS.iload X120.here hx rfl (hb hby at_42) rfl ?_
          show own_S p e below T120 m 44 #[iv p1, iv p2, iv (4 : Int32), rv b2, iv (0 : Int32), iv (1 : Int32), .unset, .unset, .unset] [(.int (1 : Int32))] _
          refine XS.ifNo X120.here hx rfl (hb hby at_44) rfl ((if0 _ _).trans (feq (by decide : ¬ ((1 : Int32) = (0 : Int32)))).1) ?_
          show own_S p e below T120 m 47 #[iv p1, iv p2, iv (4 : Int32), rv b2, iv (0 : Int32), iv (1 : Int32), .unset, .unset, .unset] [] _
          refine XS.iinc X120.here hx rfl (hb hby at_47) rfl (l' := #[iv p1, iv p2, iv (4 : Int32), rv b2, iv ((0 : Int32) + (1 : Int32)), iv (1 : Int32), .unset, .unset, .unset]) rfl ?_
          exact k)
        exact ⟨T120, _, _, X120, rfl, N120, ((Keep.refl h2 [b2]).trans K120 (allS (Or.inl (List.mem_of_getElem? (i := 0) rfl)) all0)), ((0 : Int32) + (1 : Int32)), ((0 : Int64) + (1 : Int64)), (1 : Int32), (by decide), E120c, Fp120, Fa120, pre121⟩
    obtain ⟨Tj122, hj122, Lj122, Xj122, ej122, Nj122, Kj122, a_2, A_2, fz_2, h_a_2, Fj122_0, Fj122_1, Fj122_2, prej122⟩ : ∃ (Tj : State) (hj : Heap) (Lj : List Loc), Stand p l e room_1 s m #[(.int p1), (.int p2)] below meth c Tj Lj 1 2 ∧ Tj.heap = hj ∧ Fr n0 Lj ∧ Keep hj115 hj [b2] ∧ ∃ a_2 : Int32, ∃ A_2 : Int64, ∃ fz_2 : Int32, ((a_2 = 0 ∧ A_2 = 0) ∨ (a_2 = 1 ∧ A_2 = 1) ∨ (a_2 = 2 ∧ A_2 = 2)) ∧ (Exa Z hj b2 "com/example/clockwright/clockwright/mcmc/Acceptance") ∧ (Fld Z hj b2 "com/example/clockwright/clockwright/mcmc/Acceptance" "proposals" "J" (.long (2 : Int64))) ∧ (Fld Z hj b2 "com/example/clockwright/clockwright/mcmc/Acceptance" "accepted" "J" (.long A_2)) ∧ ∀ tg, own_S p e below Tj m 82 #[iv p1, iv p2, iv (4 : Int32), rv b2, iv a_2, iv fz_2, .unset, .unset, .unset] [] tg → Steps p.tables e below (s₁.setTop (entryFrame m #[(.int p1), (.int p2)] maxLocals)) tg := by
      have pre124 : ∀ tg, own_S p e below Tj115 m 58 #[iv p1, iv p2, iv (4 : Int32), rv b2, iv a_1, iv fz_1, .unset, .unset, .unset] [(.int (p2 &&& (2 : Int32)))] tg → Steps p.tables e below (s₁.setTop (entryFrame m #[(.int p1), (.int p2)] maxLocals)) tg := fun tg k => prej115 tg (by
        show own_S p e below Tj115 m 50 #[iv p1, iv p2, iv (4 : Int32), rv b2, iv a_1, iv fz_1, .unset, .unset, .unset] [] _
        refine XS.iloadN Xj115.here hx rfl (hb hby at_50) rfl ?_
        show own_S p e below Tj115 m 51 #[iv p1, iv p2, iv (4 : Int32), rv b2, iv a_1, iv fz_1, .unset, .unset, .unset] [(.int (4 : Int32))] _
        refine XS.iconst Xj115.here hx rfl (hb hby at_51) ?_
        show own_S p e below Tj115 m 52 #[iv p1, iv p2, iv (4 : Int32), rv b2, iv a_1, iv fz_1, .unset, .unset, .unset] [(.int (2 : Int32)), (.int (4 : Int32))] _
        refine XS.icmpNo Xj115.here hx rfl (hb hby at_52) rfl (flt (by decide : ¬ ((4 : Int32) < (2 : Int32)))).1 ?_
        show own_S p e below Tj115 m 55 #[iv p1, iv p2, iv (4 : Int32), rv b2, iv a_1, iv fz_1, .unset, .unset, .unset] [] _
        refine XS.iloadN Xj115.here hx rfl (hb hby at_55) rfl ?_
        show own_S p e below Tj115 m 56 #[iv p1, iv p2, iv (4 : Int32), rv b2, iv a_1, iv fz_1, .unset, .unset, .unset] [(.int p2)] _
        refine XS.iconst Xj115.here hx rfl (hb hby at_56) ?_
        show own_S p e below Tj115 m 57 #[iv p1, iv p2, iv (4 : Int32), rv b2, iv a_1, iv fz_1, .unset, .unset, .unset] [(.int (2 : Int32)), (.int p2)] _
        refine XS.iand Xj115.here hx rfl (hb hby at_57) rfl ?_
        exact k)
      by_cases hc58_123 : (p2 &&& (2 : Int32)) = (0 : Int32)
      ·  -- pc 58 yes
        have Zs126 : n0 ≤ hj115.size := (Nat.le_trans Zs4 Kj115.1)
        obtain ⟨cq125, kq125, q125a, q125b, q125c⟩ := isOf hZ ej115 Fj115_0
        obtain ⟨_, _, ⟨T125, L125, k125, n125⟩, -, X125, ⟨Lc125, hQ125, l125, y125, z125⟩, st125⟩ := Xj115.virtualBack hx (y := (⟨"com/example/clockwright/clockwright/mcmc/Acceptance", "count", "(Z)V"⟩ : MethodName)) (z := (⟨"com/example/clockwright/clockwright/mcmc/Acceptance", "count", "(Z)V"⟩ : MethodName)) hown (mvT hZ (hw _ (List.mem_of_getElem? (i := 30) rfl))) (mvT hZ (hw _ (List.mem_of_getElem? (i := 31) rfl))) (notFace_of_selects (args := #[]) (mvT hZ (hw _ (List.mem_of_getElem? (i := 33) rfl)))) (mvT hZ (hw _ (List.mem_of_getElem? (i := 33) rfl))) (mvT hZ (hw _ (List.mem_of_getElem? (i := 32) rfl))) (by decide) (backOf (W := 0) (rm6 l Z a0 hw [] b2 (0 : Int32) (1 : Int64) A_1 hj115 n0 Zs126 Fj115_0 g_b2 Fj115_1 Fj115_2) hZ (hw _ (List.mem_of_getElem? (i := 34) rfl)) (hw _ (List.mem_of_getElem? (i := 3) rfl)) (by decide) (by decide)) q125a q125c (g := (mkF m 71 #[iv p1, iv p2, iv (4 : Int32), rv b2, iv a_1, iv (0 : Int32), .unset, .unset, .unset] [(.int (0 : Int32)), (.ref b2)])) rfl (by rw [hml]; rfl) (Steps.refl _) (argsL := [(.int (0 : Int32))]) (rest := []) (lenOf pd_3 rfl) rfl (by show 2 * 0 + _ ≤ _; exact Nat.le_of_eq rfl) (hb hby at_71) (fun _ _ => ⟨rfl, ej115, (by decide : 1 + 0 ≤ _), (by decide : 2 + 0 ≤ _)⟩)
        dsimp only [Pt.U, Pt.locs, Pt.cells, Pt.slots] at X125 l125 y125 z125 st125 hQ125
        subst l125 y125 z125
        obtain ⟨rfl, N125q, K125, E125c, Fp125, Fa125⟩ := hQ125
        have N125 := Fr.app Nj115 N125q
        rw [show ((1 : Int64) + (1 : Int64)) = (2 : Int64) from by decide] at Fp125
        rw [show (A_1 + own_one (0 : Int32)) = A_1 from by simp [own_one]] at Fa125
        have pre127 : ∀ tg, own_S p e below T125 m 82 #[iv p1, iv p2, iv (4 : Int32), rv b2, iv a_1, iv (0 : Int32), .unset, .unset, .unset] [] tg → Steps p.tables e below (s₁.setTop (entryFrame m #[(.int p1), (.int p2)] maxLocals)) tg := fun tg k => pre124 tg (by
          show own_S p e below Tj115 m 58 #[iv p1, iv p2, iv (4 : Int32), rv b2, iv a_1, iv fz_1, .unset, .unset, .unset] [(.int (p2 &&& (2 : Int32)))] _
          refine XS.ifYes Xj115.here hx rfl (pc0 := 58) (pc' := 65) rfl (hb hby at_58) rfl ((if0 _ _).trans (teq hc58_123).1) (by decide) (by decide) ?_
          show own_S p e below Tj115 m 65 #[iv p1, iv p2, iv (4 : Int32), rv b2, iv a_1, iv fz_1, .unset, .unset, .unset] [] _
          refine XS.iconst Xj115.here hx rfl (hb hby at_65) ?_
          show own_S p e below Tj115 m 66 #[iv p1, iv p2, iv (4 : Int32), rv b2, iv a_1, iv fz_1, .unset, .unset, .unset] [(.int (0 : Int32))] _
          refine XS.istore Xj115.here hx rfl (hb hby at_66) rfl (l' := #[iv p1, iv p2, iv (4 : Int32), rv b2, iv a_1, iv (0 : Int32), .unset, .unset, .unset]) rfl ?_
          show own_S p e below Tj115 m 68 #[iv p1, iv p2, iv (4 : Int32), rv b2, iv a_1, iv (0 : Int32), .unset, .unset, .unset] [] _
          refine XS.aloadN Xj115.here hx rfl (hb hby at_68) rfl rfl ?_
          show own_S p e below Tj115 m 69 #[iv p1, iv p2, iv (4 : Int32), rv b2, iv a_1, iv (0 : Int32), .unset, .unset, .unset] [(.ref b2)] _
          refine XS.iload Xj115.here hx rfl (hb hby at_69) rfl ?_
          show own_S p e below Tj115 m 71 #[iv p1, iv p2, iv (4 : Int32), rv b2, iv a_1, iv (0 : Int32), .unset, .unset, .unset] [(.int (0 : Int32)), (.ref b2)] _
          refine st125.trans ?_
          show own_S p e below T125 m 74 #[iv p1, iv p2, iv (4 : Int32), rv b2, iv a_1, iv (0 : Int32), .unset, .unset, .unset] [] _
          refine XS.iload X125.here hx rfl (hb hby at_74) rfl ?_
          show own_S p e below T125 m 76 #[iv p1, iv p2, iv (4 : Int32), rv b2, iv a_1, iv (0 : Int32), .unset, .unset, .unset] [(.int (0 : Int32))] _
          refine XS.ifYes X125.here hx rfl (pc0 := 76) (pc' := 82) rfl (hb hby at_76) rfl ((if0 _ _).trans (teq (by decide : (0 : Int32) = (0 : Int32))).1) (by decide) (by decide) ?_
          exact k)
        exact ⟨T125, _, _, X125, rfl, N125, ((Keep.refl hj115 [b2]).trans K125 (allS (Or.inl (List.mem_of_getElem? (i := 0) rfl)) all0)), a_1, A_1, (0 : Int32), (by rcases h_a_1 with ⟨rfl, rfl⟩ | ⟨rfl, rfl⟩ <;> decide), E125c, Fp125, Fa125, pre127⟩
      ·  -- pc 58 no
        have Zs129 : n0 ≤ hj115.size := (Nat.le_trans Zs4 Kj115.1)
        obtain ⟨cq128, kq128, q128a, q128b, q128c⟩ := isOf hZ ej115 Fj115_0
        obtain ⟨_, _, ⟨T128, L128, k128, n128⟩, -, X128, ⟨Lc128, hQ128, l128, y128, z128⟩, st128⟩ := Xj115.virtualBack hx (y := (⟨"com/example/clockwright/clockwright/mcmc/Acceptance", "count", "(Z)V"⟩ : MethodName)) (z := (⟨"com/example/clockwright/clockwright/mcmc/Acceptance", "count", "(Z)V"⟩ : MethodName)) hown (mvT hZ (hw _ (List.mem_of_getElem? (i := 30) rfl))) (mvT hZ (hw _ (List.mem_of_getElem? (i := 31) rfl))) (notFace_of_selects (args := #[]) (mvT hZ (hw _ (List.mem_of_getElem? (i := 33) rfl)))) (mvT hZ (hw _ (List.mem_of_getElem? (i := 33) rfl))) (mvT hZ (hw _ (List.mem_of_getElem? (i := 32) rfl))) (by decide) (backOf (W := 0) (rm6 l Z a0 hw [] b2 (1 : Int32) (1 : Int64) A_1 hj115 n0 Zs129 Fj115_0 g_b2 Fj115_1 Fj115_2) hZ (hw _ (List.mem_of_getElem? (i := 34) rfl)) (hw _ (List.mem_of_getElem? (i := 3) rfl)) (by decide) (by decide)) q128a q128c (g := (mkF m 71 #[iv p1, iv p2, iv (4 : Int32), rv b2, iv a_1, iv (1 : Int32), .unset, .unset, .unset] [(.int (1 : Int32)), (.ref b2)])) rfl (by rw [hml]; rfl) (Steps.refl _) (argsL := [(.int (1 : Int32))]) (rest := []) (lenOf pd_3 rfl) rfl (by show 2 * 0 + _ ≤ _; exact Nat.le_of_eq rfl) (hb hby at_71) (fun _ _ => ⟨rfl, ej115, (by decide : 1 + 0 ≤ _), (by decide : 2 + 0 ≤ _)⟩)
        dsimp only [Pt.U, Pt.locs, Pt.cells, Pt.slots] at X128 l128 y128 z128 st128 hQ128
        subst l128 y128 z128
        obtain ⟨rfl, N128q, K128, E128c, Fp128, Fa128⟩ := hQ128
        have N128 := Fr.app Nj115 N128q
        rw [show ((1 : Int64) + (1 : Int64)) = (2 : Int64) from by decide] at Fp128
        rw [show (A_1 + own_one (1 : Int32)) = (A_1 + (1 : Int64)) from by simp [own_one]] at Fa128
        have pre130 : ∀ tg, own_S p e below T128 m 82 #[iv p1, iv p2, iv (4 : Int32), rv b2, iv (a_1 + (1 : Int32)), iv (1 : Int32), .unset, .unset, .unset] [] tg → Steps p.tables e below (s₁.setTop (entryFrame m #[(.int p1), (.int p2)] maxLocals)) tg := fun tg k => pre124 tg (by
          show own_S p e below Tj115 m 58 #[iv p1, iv p2, iv (4 : Int32), rv b2, iv a_1, iv fz_1, .unset, .unset, .unset] [(.int (p2 &&& (2 : Int32)))] _
          refine XS.ifNo Xj115.here hx rfl (hb hby at_58) rfl ((if0 _ _).trans (feq hc58_123).1) ?_
          show own_S p e below Tj115 m 61 #[iv p1, iv p2, iv (4 : Int32), rv b2, iv a_1, iv fz_1, .unset, .unset, .unset] [] _
          refine XS.iconst Xj115.here hx rfl (hb hby at_61) ?_
          show own_S p e below Tj115 m 62 #[iv p1, iv p2, iv (4 : Int32), rv b2, iv a_1, iv fz_1, .unset, .unset, .unset] [(.int (1 : Int32))] _
          refine XS.goto Xj115.here hx rfl (pc0 := 62) (pc' := 66) rfl (hb hby at_62) (by decide) (by decide) ?_
          show own_S p e below Tj115 m 66 #[iv p1, iv p2, iv (4 : Int32), rv b2, iv a_1, iv fz_1, .unset, .unset, .unset] [(.int (1 : Int32))] _
          refine XS.istore Xj115.here hx rfl (hb hby at_66) rfl (l' := #[iv p1, iv p2, iv (4 : Int32), rv b2, iv a_1, iv (1 : Int32), .unset, .unset, .unset]) rfl ?_
          show own_S p e below Tj115 m 68 #[iv p1, iv p2, iv (4 : Int32), rv b2, iv a_1, iv (1 : Int32), .unset, .unset, .unset] [] _
          refine XS.aloadN Xj115.here hx rfl (hb hby at_68) rfl rfl ?_
          show own_S p e below Tj115 m 69 #[iv p1, iv p2, iv (4 : Int32), rv b2, iv a_1, iv (1 : Int32), .unset, .unset, .unset] [(.ref b2)] _
          refine XS.iload Xj115.here hx rfl (hb hby at_69) rfl ?_
          show own_S p e below Tj115 m 71 #[iv p1, iv p2, iv (4 : Int32), rv b2, iv a_1, iv (1 : Int32), .unset, .unset, .unset] [(.int (1 : Int32)), (.ref b2)] _
          refine st128.trans ?_
          show own_S p e below T128 m 74 #[iv p1, iv p2, iv (4 : Int32), rv b2, iv a_1, iv (1 : Int32), .unset, .unset, .unset] [] _
          refine XS.iload X128.here hx rfl (hb hby at_74) rfl ?_
          show own_S p e below T128 m 76 #[iv p1, iv p2, iv (4 : Int32), rv b2, iv a_1, iv (1 : Int32), .unset, .unset, .unset] [(.int (1 : Int32))] _
          refine XS.ifNo X128.here hx rfl (hb hby at_76) rfl ((if0 _ _).trans (feq (by decide : ¬ ((1 : Int32) = (0 : Int32)))).1) ?_
          show own_S p e below T128 m 79 #[iv p1, iv p2, iv (4 : Int32), rv b2, iv a_1, iv (1 : Int32), .unset, .unset, .unset] [] _
          refine XS.iinc X128.here hx rfl (hb hby at_79) rfl (l' := #[iv p1, iv p2, iv (4 : Int32), rv b2, iv (a_1 + (1 : Int32)), iv (1 : Int32), .unset, .unset, .unset]) rfl ?_
          exact k)
        exact ⟨T128, _, _, X128, rfl, N128, ((Keep.refl hj115 [b2]).trans K128 (allS (Or.inl (List.mem_of_getElem? (i := 0) rfl)) all0)), (a_1 + (1 : Int32)), (A_1 + (1 : Int64)), (1 : Int32), (by rcases h_a_1 with ⟨rfl, rfl⟩ | ⟨rfl, rfl⟩ <;> decide), E128c, Fp128, Fa128, pre130⟩
    obtain ⟨Tj131, hj131, Lj131, Xj131, ej131, Nj131, Kj131, a_3, A_3, fz_3, h_a_3, Fj131_0, Fj131_1, Fj131_2, prej131⟩ : ∃ (Tj : State) (hj : Heap) (Lj : List Loc), Stand p l e room_1 s m #[(.int p1), (.int p2)] below meth c Tj Lj 1 2 ∧ Tj.heap = hj ∧ Fr n0 Lj ∧ Keep hj122 hj [b2] ∧ ∃ a_3 : Int32, ∃ A_3 : Int64, ∃ fz_3 : Int32, ((a_3 = 0 ∧ A_3 = 0) ∨ (a_3 = 1 ∧ A_3 = 1) ∨ (a_3 = 2 ∧ A_3 = 2) ∨ (a_3 = 3 ∧ A_3 = 3)) ∧ (Exa Z hj b2 "com/example/clockwright/clockwright/mcmc/Acceptance") ∧ (Fld Z hj b2 "com/example/clockwright/clockwright/mcmc/Acceptance" "proposals" "J" (.long (3 : Int64))) ∧ (Fld Z hj b2 "com/example/clockwright/clockwright/mcmc/Acceptance" "accepted" "J" (.long A_3)) ∧ ∀ tg, own_S p e below Tj m 114 #[iv p1, iv p2, iv (4 : Int32), rv b2, iv a_3, iv fz_3, .unset, .unset, .unset] [] tg → Steps p.tables e below (s₁.setTop (entryFrame m #[(.int p1), (.int p2)] maxLocals)) tg := by
      have pre133 : ∀ tg, own_S p e below Tj122 m 90 #[iv p1, iv p2, iv (4 : Int32), rv b2, iv a_2, iv fz_2, .unset, .unset, .unset] [(.int (p2 &&& (4 : Int32)))] tg → Steps p.tables e below (s₁.setTop (entryFrame m #[(.int p1), (.int p2)] maxLocals)) tg := fun tg k => prej122 tg (by
        show own_S p e below Tj122 m 82 #[iv p1, iv p2, iv (4 : Int32), rv b2, iv a_2, iv fz_2, .unset, .unset, .unset] [] _
        refine XS.iloadN Xj122.here hx rfl (hb hby at_82) rfl ?_
        show own_S p e below Tj122 m 83 #[iv p1, iv p2, iv (4 : Int32), rv b2, iv a_2, iv fz_2, .unset, .unset, .unset] [(.int (4 : Int32))] _
        refine XS.iconst Xj122.here hx rfl (hb hby at_83) ?_
        show own_S p e below Tj122 m 84 #[iv p1, iv p2, iv (4 : Int32), rv b2, iv a_2, iv fz_2, .unset, .unset, .unset] [(.int (3 : Int32)), (.int (4 : Int32))] _
        refine XS.icmpNo Xj122.here hx rfl (hb hby at_84) rfl (flt (by decide : ¬ ((4 : Int32) < (3 : Int32)))).1 ?_
        show own_S p e below Tj122 m 87 #[iv p1, iv p2, iv (4 : Int32), rv b2, iv a_2, iv fz_2, .unset, .unset, .unset] [] _
        refine XS.iloadN Xj122.here hx rfl (hb hby at_87) rfl ?_
        show own_S p e below Tj122 m 88 #[iv p1, iv p2, iv (4 : Int32), rv b2, iv a_2, iv fz_2, .unset, .unset, .unset] [(.int p2)] _
        refine XS.iconst Xj122.here hx rfl (hb hby at_88) ?_
        show own_S p e below Tj122 m 89 #[iv p1, iv p2, iv (4 : Int32), rv b2, iv a_2, iv fz_2, .unset, .unset, .unset] [(.int (4 : Int32)), (.int p2)] _
        refine XS.iand Xj122.here hx rfl (hb hby at_89) rfl ?_
        exact k)
      by_cases hc90_132 : (p2 &&& (4 : Int32)) = (0 : Int32)
      ·  -- pc 90 yes
        have Zs135 : n0 ≤ hj122.size := (Nat.le_trans (Nat.le_trans Zs4 Kj115.1) Kj122.1)
        obtain ⟨cq134, kq134, q134a, q134b, q134c⟩ := isOf hZ ej122 Fj122_0
        obtain ⟨_, _, ⟨T134, L134, k134, n134⟩, -, X134, ⟨Lc134, hQ134, l134, y134, z134⟩, st134⟩ := Xj122.virtualBack hx (y := (⟨"com/example/clockwright/clockwright/mcmc/Acceptance", "count", "(Z)V"⟩ : MethodName)) (z := (⟨"com/example/clockwright/clockwright/mcmc/Acceptance", "count", "(Z)V"⟩ : MethodName)) hown (mvT hZ (hw _ (List.mem_of_getElem? (i := 30) rfl))) (mvT hZ (hw _ (List.mem_of_getElem? (i := 31) rfl))) (notFace_of_selects (args := #[]) (mvT hZ (hw _ (List.mem_of_getElem? (i := 33) rfl)))) (mvT hZ (hw _ (List.mem_of_getElem? (i := 33) rfl))) (mvT hZ (hw _ (List.mem_of_getElem? (i := 32) rfl))) (by decide) (backOf (W := 0) (rm6 l Z a0 hw [] b2 (0 : Int32) (2 : Int64) A_2 hj122 n0 Zs135 Fj122_0 g_b2 Fj122_1 Fj122_2) hZ (hw _ (List.mem_of_getElem? (i := 34) rfl)) (hw _ (List.mem_of_getElem? (i := 3) rfl)) (by decide) (by decide)) q134a q134c (g := (mkF m 103 #[iv p1, iv p2, iv (4 : Int32), rv b2, iv a_2, iv (0 : Int32), .unset, .unset, .unset] [(.int (0 : Int32)), (.ref b2)])) rfl (by rw [hml]; rfl) (Steps.refl _) (argsL := [(.int (0 : Int32))]) (rest := []) (lenOf pd_3 rfl) rfl (by show 2 * 0 + _ ≤ _; exact Nat.le_of_eq rfl) (hb hby at_103) (fun _ _ => ⟨rfl, ej122, (by decide : 1 + 0 ≤ _), (by decide : 2 + 0 ≤ _)⟩)
        dsimp only [Pt.U, Pt.locs, Pt.cells, Pt.slots] at X134 l134 y134 z134 st134 hQ134
        subst l134 y134 z134
        obtain ⟨rfl, N134q, K134, E134c, Fp134, Fa134⟩ := hQ134
        have N134 := Fr.app Nj122 N134q
        rw [show ((2 : Int64) + (1 : Int64)) = (3 : Int64) from by decide] at Fp134
        rw [show (A_2 + own_one (0 : Int32)) = A_2 from by simp [own_one]] at Fa134
        have pre136 : ∀ tg, own_S p e below T134 m 114 #[iv p1, iv p2, iv (4 : Int32), rv b2, iv a_2, iv (0 : Int32), .unset, .unset, .unset] [] tg → Steps p.tables e below (s₁.setTop (entryFrame m #[(.int p1), (.int p2)] maxLocals)) tg := fun tg k => pre133 tg (by
          show own_S p e below Tj122 m 90 #[iv p1, iv p2, iv (4 : Int32), rv b2, iv a_2, iv fz_2, .unset, .unset, .unset] [(.int (p2 &&& (4 : Int32)))] _
          refine XS.ifYes Xj122.here hx rfl (pc0 := 90) (pc' := 97) rfl (hb hby at_90) rfl ((if0 _ _).trans (teq hc90_132).1) (by decide) (by decide) ?_
          show own_S p e below Tj122 m 97 #[iv p1, iv p2, iv (4 : Int32), rv b2, iv a_2, iv fz_2, .unset, .unset, .unset] [] _
          refine XS.iconst Xj122.here hx rfl (hb hby at_97) ?_
          show own_S p e below Tj122 m 98 #[iv p1, iv p2, iv (4 : Int32), rv b2, iv a_2, iv fz_2, .unset, .unset, .unset] [(.int (0 : Int32))] _
          refine XS.istore Xj122.here hx rfl (hb hby at_98) rfl (l' := #[iv p1, iv p2, iv (4 : Int32), rv b2, iv a_2, iv (0 : Int32), .unset, .unset, .unset]) rfl ?_
          show own_S p e below Tj122 m 100 #[iv p1, iv p2, iv (4 : Int32), rv b2, iv a_2, iv (0 : Int32), .unset, .unset, .unset] [] _
          refine XS.aloadN Xj122.here hx rfl (hb hby at_100) rfl rfl ?_
          show own_S p e below Tj122 m 101 #[iv p1, iv p2, iv (4 : Int32), rv b2, iv a_2, iv (0 : Int32), .unset, .unset, .unset] [(.ref b2)] _
          refine XS.iload Xj122.here hx rfl (hb hby at_101) rfl ?_
          show own_S p e below Tj122 m 103 #[iv p1, iv p2, iv (4 : Int32), rv b2, iv a_2, iv (0 : Int32), .unset, .unset, .unset] [(.int (0 : Int32)), (.ref b2)] _
          refine st134.trans ?_
          show own_S p e below T134 m 106 #[iv p1, iv p2, iv (4 : Int32), rv b2, iv a_2, iv (0 : Int32), .unset, .unset, .unset] [] _
          refine XS.iload X134.here hx rfl (hb hby at_106) rfl ?_
          show own_S p e below T134 m 108 #[iv p1, iv p2, iv (4 : Int32), rv b2, iv a_2, iv (0 : Int32), .unset, .unset, .unset] [(.int (0 : Int32))] _
          refine XS.ifYes X134.here hx rfl (pc0 := 108) (pc' := 114) rfl (hb hby at_108) rfl ((if0 _ _).trans (teq (by decide : (0 : Int32) = (0 : Int32))).1) (by decide) (by decide) ?_
          exact k)
        exact ⟨T134, _, _, X134, rfl, N134, ((Keep.refl hj122 [b2]).trans K134 (allS (Or.inl (List.mem_of_getElem? (i := 0) rfl)) all0)), a_2, A_2, (0 : Int32), (by rcases h_a_2 with ⟨rfl, rfl⟩ | ⟨rfl, rfl⟩ | ⟨rfl, rfl⟩ <;> decide), E134c, Fp134, Fa134, pre136⟩
      ·  -- pc 90 no
        have Zs138 : n0 ≤ hj122.size := (Nat.le_trans (Nat.le_trans Zs4 Kj115.1) Kj122.1)
        obtain ⟨cq137, kq137, q137a, q137b, q137c⟩ := isOf hZ ej122 Fj122_0
        obtain ⟨_, _, ⟨T137, L137, k137, n137⟩, -, X137, ⟨Lc137, hQ137, l137, y137, z137⟩, st137⟩ := Xj122.virtualBack hx (y := (⟨"com/example/clockwright/clockwright/mcmc/Acceptance", "count", "(Z)V"⟩ : MethodName)) (z := (⟨"com/example/clockwright/clockwright/mcmc/Acceptance", "count", "(Z)V"⟩ : MethodName)) hown (mvT hZ (hw _ (List.mem_of_getElem? (i := 30) rfl))) (mvT hZ (hw _ (List.mem_of_getElem? (i := 31) rfl))) (notFace_of_selects (args := #[]) (mvT hZ (hw _ (List.mem_of_getElem? (i := 33) rfl)))) (mvT hZ (hw _ (List.mem_of_getElem? (i := 33) rfl))) (mvT hZ (hw _ (List.mem_of_getElem? (i := 32) rfl))) (by decide) (backOf (W := 0) (rm6 l Z a0 hw [] b2 (1 : Int32) (2 : Int64) A_2 hj122 n0 Zs138 Fj122_0 g_b2 Fj122_1 Fj122_2) hZ (hw _ (List.mem_of_getElem? (i := 34) rfl)) (hw _ (List.mem_of_getElem? (i := 3) rfl)) (by decide) (by decide)) q137a q137c (g := (mkF m 103 #[iv p1, iv p2, iv (4 : Int32), rv b2, iv a_2, iv (1 : Int32), .unset, .unset, .unset] [(.int (1 : Int32)), (.ref b2)])) rfl (by rw [hml]; rfl) (Steps.refl _) (argsL := [(.int (1 : Int32))]) (rest := []) (lenOf pd_3 rfl) rfl (by show 2 * 0 + _ ≤ _; exact Nat.le_of_eq rfl) (hb hby at_103) (fun _ _ => ⟨rfl, ej122, (by decide : 1 + 0 ≤ _), (by decide : 2 + 0 ≤ _)⟩)
        dsimp only [Pt.U, Pt.locs, Pt.cells, Pt.slots] at X137 l137 y137 z137 st137 hQ137
        subst l137 y137 z137
        obtain ⟨rfl, N137q, K137, E137c, Fp137, Fa137⟩ := hQ137
        have N137 := Fr.app Nj122 N137q
        rw [show ((2 : Int64) + (1 : Int64)) = (3 : Int64) from by decide] at Fp137
        rw [show (A_2 + own_one (1 : Int32)) = (A_2 + (1 : Int64)) from by simp [own_one]] at Fa137
        have pre139 : ∀ tg, own_S p e below T137 m 114 #[iv p1, iv p2, iv (4 : Int32), rv b2, iv (a_2 + (1 : Int32)), iv (1 : Int32), .unset, .unset, .unset] [] tg → Steps p.tables e below (s₁.setTop (entryFrame m #[(.int p1), (.int p2)] maxLocals)) tg := fun tg k => pre133 tg (by
          show own_S p e below Tj122 m 90 #[iv p1, iv p2, iv (4 : Int32), rv b2, iv a_2, iv fz_2, .unset, .unset, .unset] [(.int (p2 &&& (4 : Int32)))] _
          refine XS.ifNo Xj122.here hx rfl (hb hby at_90) rfl ((if0 _ _).trans (feq hc90_132).1) ?_
          show own_S p e below Tj122 m 93 #[iv p1, iv p2, iv (4 : Int32), rv b2, iv a_2, iv fz_2, .unset, .unset, .unset] [] _
          refine XS.iconst Xj122.here hx rfl (hb hby at_93) ?_
          show own_S p e below Tj122 m 94 #[iv p1, iv p2, iv (4 : Int32), rv b2, iv a_2, iv fz_2, .unset, .unset, .unset] [(.int (1 : Int32))] _
          refine XS.goto Xj122.here hx rfl (pc0 := 94) (pc' := 98) rfl (hb hby at_94) (by decide) (by decide) ?_
          show own_S p e below Tj122 m 98 #[iv p1, iv p2, iv (4 : Int32), rv b2, iv a_2, iv fz_2, .unset, .unset, .unset] [(.int (1 : Int32))] _
          refine XS.istore Xj122.here hx rfl (hb hby at_98) rfl (l' := #[iv p1, iv p2, iv (4 : Int32), rv b2, iv a_2, iv (1 : Int32), .unset, .unset, .unset]) rfl ?_
          show own_S p e below Tj122 m 100 #[iv p1, iv p2, iv (4 : Int32), rv b2, iv a_2, iv (1 : Int32), .unset, .unset, .unset] [] _
          refine XS.aloadN Xj122.here hx rfl (hb hby at_100) rfl rfl ?_
          show own_S p e below Tj122 m 101 #[iv p1, iv p2, iv (4 : Int32), rv b2, iv a_2, iv (1 : Int32), .unset, .unset, .unset] [(.ref b2)] _
          refine XS.iload Xj122.here hx rfl (hb hby at_101) rfl ?_
          show own_S p e below Tj122 m 103 #[iv p1, iv p2, iv (4 : Int32), rv b2, iv a_2, iv (1 : Int32), .unset, .unset, .unset] [(.int (1 : Int32)), (.ref b2)] _
          refine st137.trans ?_
          show own_S p e below T137 m 106 #[iv p1, iv p2, iv (4 : Int32), rv b2, iv a_2, iv (1 : Int32), .unset, .unset, .unset] [] _
          refine XS.iload X137.here hx rfl (hb hby at_106) rfl ?_
          show own_S p e below T137 m 108 #[iv p1, iv p2, iv (4 : Int32), rv b2, iv a_2, iv (1 : Int32), .unset, .unset, .unset] [(.int (1 : Int32))] _
          refine XS.ifNo X137.here hx rfl (hb hby at_108) rfl ((if0 _ _).trans (feq (by decide : ¬ ((1 : Int32) = (0 : Int32)))).1) ?_
          show own_S p e below T137 m 111 #[iv p1, iv p2, iv (4 : Int32), rv b2, iv a_2, iv (1 : Int32), .unset, .unset, .unset] [] _
          refine XS.iinc X137.here hx rfl (hb hby at_111) rfl (l' := #[iv p1, iv p2, iv (4 : Int32), rv b2, iv (a_2 + (1 : Int32)), iv (1 : Int32), .unset, .unset, .unset]) rfl ?_
          exact k)
        exact ⟨T137, _, _, X137, rfl, N137, ((Keep.refl hj122 [b2]).trans K137 (allS (Or.inl (List.mem_of_getElem? (i := 0) rfl)) all0)), (a_2 + (1 : Int32)), (A_2 + (1 : Int64)), (1 : Int32), (by rcases h_a_2 with ⟨rfl, rfl⟩ | ⟨rfl, rfl⟩ | ⟨rfl, rfl⟩ <;> decide), E137c, Fp137, Fa137, pre139⟩
    obtain ⟨Tj140, hj140, Lj140, Xj140, ej140, Nj140, Kj140, a_4, A_4, fz_4, h_a_4, Fj140_0, Fj140_1, Fj140_2, prej140⟩ : ∃ (Tj : State) (hj : Heap) (Lj : List Loc), Stand p l e room_1 s m #[(.int p1), (.int p2)] below meth c Tj Lj 1 2 ∧ Tj.heap = hj ∧ Fr n0 Lj ∧ Keep hj131 hj [b2] ∧ ∃ a_4 : Int32, ∃ A_4 : Int64, ∃ fz_4 : Int32, ((a_4 = 0 ∧ A_4 = 0) ∨ (a_4 = 1 ∧ A_4 = 1) ∨ (a_4 = 2 ∧ A_4 = 2) ∨ (a_4 = 3 ∧ A_4 = 3) ∨ (a_4 = 4 ∧ A_4 = 4)) ∧ (Exa Z hj b2 "com/example/clockwright/clockwright/mcmc/Acceptance") ∧ (Fld Z hj b2 "com/example/clockwright/clockwright/mcmc/Acceptance" "proposals" "J" (.long (4 : Int64))) ∧ (Fld Z hj b2 "com/example/clockwright/clockwright/mcmc/Acceptance" "accepted" "J" (.long A_4)) ∧ ∀ tg, own_S p e below Tj m 147 #[iv p1, iv p2, iv (4 : Int32), rv b2, iv a_4, iv fz_4, .unset, .unset, .unset] [] tg → Steps p.tables e below (s₁.setTop (entryFrame m #[(.int p1), (.int p2)] maxLocals)) tg := by
      have pre142 : ∀ tg, own_S p e below Tj131 m 123 #[iv p1, iv p2, iv (4 : Int32), rv b2, iv a_3, iv fz_3, .unset, .unset, .unset] [(.int (p2 &&& (8 : Int32)))] tg → Steps p.tables e below (s₁.setTop (entryFrame m #[(.int p1), (.int p2)] maxLocals)) tg := fun tg k => prej131 tg (by
        show own_S p e below Tj131 m 114 #[iv p1, iv p2, iv (4 : Int32), rv b2, iv a_3, iv fz_3, .unset, .unset, .unset] [] _
        refine XS.iloadN Xj131.here hx rfl (hb hby at_114) rfl ?_
        show own_S p e below Tj131 m 115 #[iv p1, iv p2, iv (4 : Int32), rv b2, iv a_3, iv fz_3, .unset, .unset, .unset] [(.int (4 : Int32))] _
        refine XS.iconst Xj131.here hx rfl (hb hby at_115) ?_
        show own_S p e below Tj131 m 116 #[iv p1, iv p2, iv (4 : Int32), rv b2, iv a_3, iv fz_3, .unset, .unset, .unset] [(.int (4 : Int32)), (.int (4 : Int32))] _
        refine XS.icmpNo Xj131.here hx rfl (hb hby at_116) rfl (flt (by decide : ¬ ((4 : Int32) < (4 : Int32)))).1 ?_
        show own_S p e below Tj131 m 119 #[iv p1, iv p2, iv (4 : Int32), rv b2, iv a_3, iv fz_3, .unset, .unset, .unset] [] _
        refine XS.iloadN Xj131.here hx rfl (hb hby at_119) rfl ?_
        show own_S p e below Tj131 m 120 #[iv p1, iv p2, iv (4 : Int32), rv b2, iv a_3, iv fz_3, .unset, .unset, .unset] [(.int p2)] _
        refine XS.bipush Xj131.here hx rfl (hb hby at_120) ?_
        show own_S p e below Tj131 m 122 #[iv p1, iv p2, iv (4 : Int32), rv b2, iv a_3, iv fz_3, .unset, .unset, .unset] [(.int (8 : Int32)), (.int p2)] _
        refine XS.iand Xj131.here hx rfl (hb hby at_122) rfl ?_
        exact k)
      by_cases hc123_141 : (p2 &&& (8 : Int32)) = (0 : Int32)
      ·  -- pc 123 yes
        have Zs144 : n0 ≤ hj131.size := (Nat.le_trans (Nat.le_trans (Nat.le_trans Zs4 Kj115.1) Kj122.1) Kj131.1)
        obtain ⟨cq143, kq143, q143a, q143b, q143c⟩ := isOf hZ ej131 Fj131_0
        obtain ⟨_, _, ⟨T143, L143, k143, n143⟩, -, X143, ⟨Lc143, hQ143, l143, y143, z143⟩, st143⟩ := Xj131.virtualBack hx (y := (⟨"com/example/clockwright/clockwright/mcmc/Acceptance", "count", "(Z)V"⟩ : MethodName)) (z := (⟨"com/example/clockwright/clockwright/mcmc/Acceptance", "count", "(Z)V"⟩ : MethodName)) hown (mvT hZ (hw _ (List.mem_of_getElem? (i := 30) rfl))) (mvT hZ (hw _ (List.mem_of_getElem? (i := 31) rfl))) (notFace_of_selects (args := #[]) (mvT hZ (hw _ (List.mem_of_getElem? (i := 33) rfl)))) (mvT hZ (hw _ (List.mem_of_getElem? (i := 33) rfl))) (mvT hZ (hw _ (List.mem_of_getElem? (i := 32) rfl))) (by decide) (backOf (W := 0) (rm6 l Z a0 hw [] b2 (0 : Int32) (3 : Int64) A_3 hj131 n0 Zs144 Fj131_0 g_b2 Fj131_1 Fj131_2) hZ (hw _ (List.mem_of_getElem? (i := 34) rfl)) (hw _ (List.mem_of_getElem? (i := 3) rfl)) (by decide) (by decide)) q143a q143c (g := (mkF m 136 #[iv p1, iv p2, iv (4 : Int32), rv b2, iv a_3, iv (0 : Int32), .unset, .unset, .unset] [(.int (0 : Int32)), (.ref b2)])) rfl (by rw [hml]; rfl) (Steps.refl _) (argsL := [(.int (0 : Int32))]) (rest := []) (lenOf pd_3 rfl) rfl (by show 2 * 0 + _ ≤ _; exact Nat.le_of_eq rfl) (hb hby at_136) (fun _ _ => ⟨rfl, ej131, (by decide : 1 + 0 ≤ _), (by decide : 2 + 0 ≤ _)⟩)
        dsimp only [Pt.U, Pt.locs, Pt.cells, Pt.slots] at X143 l143 y143 z143 st143 hQ143
        subst l143 y143 z143
        obtain ⟨rfl, N143q, K143, E143c, Fp143, Fa143⟩ := hQ143
        have N143 := Fr.app Nj131 N143q
        rw [show ((3 : Int64) + (1 : Int64)) = (4 : Int64) from by decide] at Fp143
        rw [show (A_3 + own_one (0 : Int32)) = A_3 from by simp [own_one]] at Fa143
        have pre145 : ∀ tg, own_S p e below T143 m 147 #[iv p1, iv p2, iv (4 : Int32), rv b2, iv a_3, iv (0 : Int32), .unset, .unset, .unset] [] tg → Steps p.tables e below (s₁.setTop (entryFrame m #[(.int p1), (.int p2)] maxLocals)) tg := fun tg k => pre142 tg (by
          show own_S p e below Tj131 m 123 #[iv p1, iv p2, iv (4 : Int32), rv b2, iv a_3, iv fz_3, .unset, .unset, .unset] [(.int (p2 &&& (8 : Int32)))] _
          refine XS.ifYes Xj131.here hx rfl (pc0 := 123) (pc' := 130) rfl (hb hby at_123) rfl ((if0 _ _).trans (teq hc123_141).1) (by decide) (by decide) ?_
          show own_S p e below Tj131 m 130 #[iv p1, iv p2, iv (4 : Int32), rv b2, iv a_3, iv fz_3, .unset, .unset, .unset] [] _
          refine XS.iconst Xj131.here hx rfl (hb hby at_130) ?_
          show own_S p e below Tj131 m 131 #[iv p1, iv p2, iv (4 : Int32), rv b2, iv a_3, iv fz_3, .unset, .unset, .unset] [(.int (0 : Int32))] _
          refine XS.istore Xj131.here hx rfl (hb hby at_131) rfl (l' := #[iv p1, iv p2, iv (4 : Int32), rv b2, iv a_3, iv (0 : Int32), .unset, .unset, .unset]) rfl ?_
          show own_S p e below Tj131 m 133 #[iv p1, iv p2, iv (4 : Int32), rv b2, iv a_3, iv (0 : Int32), .unset, .unset, .unset] [] _
          refine XS.aloadN Xj131.here hx rfl (hb hby at_133) rfl rfl ?_
          show own_S p e below Tj131 m 134 #[iv p1, iv p2, iv (4 : Int32), rv b2, iv a_3, iv (0 : Int32), .unset, .unset, .unset] [(.ref b2)] _
          refine XS.iload Xj131.here hx rfl (hb hby at_134) rfl ?_
          show own_S p e below Tj131 m 136 #[iv p1, iv p2, iv (4 : Int32), rv b2, iv a_3, iv (0 : Int32), .unset, .unset, .unset] [(.int (0 : Int32)), (.ref b2)] _
          refine st143.trans ?_
          show own_S p e below T143 m 139 #[iv p1, iv p2, iv (4 : Int32), rv b2, iv a_3, iv (0 : Int32), .unset, .unset, .unset] [] _
          refine XS.iload X143.here hx rfl (hb hby at_139) rfl ?_
          show own_S p e below T143 m 141 #[iv p1, iv p2, iv (4 : Int32), rv b2, iv a_3, iv (0 : Int32), .unset, .unset, .unset] [(.int (0 : Int32))] _
          refine XS.ifYes X143.here hx rfl (pc0 := 141) (pc' := 147) rfl (hb hby at_141) rfl ((if0 _ _).trans (teq (by decide : (0 : Int32) = (0 : Int32))).1) (by decide) (by decide) ?_
          exact k)
        exact ⟨T143, _, _, X143, rfl, N143, ((Keep.refl hj131 [b2]).trans K143 (allS (Or.inl (List.mem_of_getElem? (i := 0) rfl)) all0)), a_3, A_3, (0 : Int32), (by rcases h_a_3 with ⟨rfl, rfl⟩ | ⟨rfl, rfl⟩ | ⟨rfl, rfl⟩ | ⟨rfl, rfl⟩ <;> decide), E143c, Fp143, Fa143, pre145⟩
      ·  -- pc 123 no
        have Zs147 : n0 ≤ hj131.size := (Nat.le_trans (Nat.le_trans (Nat.le_trans Zs4 Kj115.1) Kj122.1) Kj131.1)
        obtain ⟨cq146, kq146, q146a, q146b, q146c⟩ := isOf hZ ej131 Fj131_0
        obtain ⟨_, _, ⟨T146, L146, k146, n146⟩, -, X146, ⟨Lc146, hQ146, l146, y146, z146⟩, st146⟩ := Xj131.virtualBack hx (y := (⟨"com/example/clockwright/clockwright/mcmc/Acceptance", "count", "(Z)V"⟩ : MethodName)) (z := (⟨"com/example/clockwright/clockwright/mcmc/Acceptance", "count", "(Z)V"⟩ : MethodName)) hown (mvT hZ (hw _ (List.mem_of_getElem? (i := 30) rfl))) (mvT hZ (hw _ (List.mem_of_getElem? (i := 31) rfl))) (notFace_of_selects (args := #[]) (mvT hZ (hw _ (List.mem_of_getElem? (i := 33) rfl)))) (mvT hZ (hw _ (List.mem_of_getElem? (i := 33) rfl))) (mvT hZ (hw _ (List.mem_of_getElem? (i := 32) rfl))) (by decide) (backOf (W := 0) (rm6 l Z a0 hw [] b2 (1 : Int32) (3 : Int64) A_3 hj131 n0 Zs147 Fj131_0 g_b2 Fj131_1 Fj131_2) hZ (hw _ (List.mem_of_getElem? (i := 34) rfl)) (hw _ (List.mem_of_getElem? (i := 3) rfl)) (by decide) (by decide)) q146a q146c (g := (mkF m 136 #[iv p1, iv p2, iv (4 : Int32), rv b2, iv a_3, iv (1 : Int32), .unset, .unset, .unset] [(.int (1 : Int32)), (.ref b2)])) rfl (by rw [hml]; rfl) (Steps.refl _) (argsL := [(.int (1 : Int32))]) (rest := []) (lenOf pd_3 rfl) rfl (by show 2 * 0 + _ ≤ _; exact Nat.le_of_eq rfl) (hb hby at_136) (fun _ _ => ⟨rfl, ej131, (by decide : 1 + 0 ≤ _), (by decide : 2 + 0 ≤ _)⟩)
        dsimp only [Pt.U, Pt.locs, Pt.cells, Pt.slots] at X146 l146 y146 z146 st146 hQ146
        subst l146 y146 z146
        obtain ⟨rfl, N146q, K146, E146c, Fp146, Fa146⟩ := hQ146
        have N146 := Fr.app Nj131 N146q
        rw [show ((3 : Int64) + (1 : Int64)) = (4 : Int64) from by decide] at Fp146
        rw [show (A_3 + own_one (1 : Int32)) = (A_3 + (1 : Int64)) from by simp [own_one]] at Fa146
        have pre148 : ∀ tg, own_S p e below T146 m 147 #[iv p1, iv p2, iv (4 : Int32), rv b2, iv (a_3 + (1 : Int32)), iv (1 : Int32), .unset, .unset, .unset] [] tg → Steps p.tables e below (s₁.setTop (entryFrame m #[(.int p1), (.int p2)] maxLocals)) tg := fun tg k => pre142 tg (by
          show own_S p e below Tj131 m 123 #[iv p1, iv p2, iv (4 : Int32), rv b2, iv a_3, iv fz_3, .unset, .unset, .unset] [(.int (p2 &&& (8 : Int32)))] _
          refine XS.ifNo Xj131.here hx rfl (hb hby at_123) rfl ((if0 _ _).trans (feq hc123_141).1) ?_
          show own_S p e below Tj131 m 126 #[iv p1, iv p2, iv (4 : Int32), rv b2, iv a_3, iv fz_3, .unset, .unset, .unset] [] _
          refine XS.iconst Xj131.here hx rfl (hb hby at_126) ?_
          show own_S p e below Tj131 m 127 #[iv p1, iv p2, iv (4 : Int32), rv b2, iv a_3, iv fz_3, .unset, .unset, .unset] [(.int (1 : Int32))] _
          refine XS.goto Xj131.here hx rfl (pc0 := 127) (pc' := 131) rfl (hb hby at_127) (by decide) (by decide) ?_
          show own_S p e below Tj131 m 131 #[iv p1, iv p2, iv (4 : Int32), rv b2, iv a_3, iv fz_3, .unset, .unset, .unset] [(.int (1 : Int32))] _
          refine XS.istore Xj131.here hx rfl (hb hby at_131) rfl (l' := #[iv p1, iv p2, iv (4 : Int32), rv b2, iv a_3, iv (1 : Int32), .unset, .unset, .unset]) rfl ?_
          show own_S p e below Tj131 m 133 #[iv p1, iv p2, iv (4 : Int32), rv b2, iv a_3, iv (1 : Int32), .unset, .unset, .unset] [] _
          refine XS.aloadN Xj131.here hx rfl (hb hby at_133) rfl rfl ?_
          show own_S p e below Tj131 m 134 #[iv p1, iv p2, iv (4 : Int32), rv b2, iv a_3, iv (1 : Int32), .unset, .unset, .unset] [(.ref b2)] _
          refine XS.iload Xj131.here hx rfl (hb hby at_134) rfl ?_
          show own_S p e below Tj131 m 136 #[iv p1, iv p2, iv (4 : Int32), rv b2, iv a_3, iv (1 : Int32), .unset, .unset, .unset] [(.int (1 : Int32)), (.ref b2)] _
          refine st146.trans ?_
          show own_S p e below T146 m 139 #[iv p1, iv p2, iv (4 : Int32), rv b2, iv a_3, iv (1 : Int32), .unset, .unset, .unset] [] _
          refine XS.iload X146.here hx rfl (hb hby at_139) rfl ?_
          show own_S p e below T146 m 141 #[iv p1, iv p2, iv (4 : Int32), rv b2, iv a_3, iv (1 : Int32), .unset, .unset, .unset] [(.int (1 : Int32))] _
          refine XS.ifNo X146.here hx rfl (hb hby at_141) rfl ((if0 _ _).trans (feq (by decide : ¬ ((1 : Int32) = (0 : Int32)))).1) ?_
          show own_S p e below T146 m 144 #[iv p1, iv p2, iv (4 : Int32), rv b2, iv a_3, iv (1 : Int32), .unset, .unset, .unset] [] _
          refine XS.iinc X146.here hx rfl (hb hby at_144) rfl (l' := #[iv p1, iv p2, iv (4 : Int32), rv b2, iv (a_3 + (1 : Int32)), iv (1 : Int32), .unset, .unset, .unset]) rfl ?_
          exact k)
        exact ⟨T146, _, _, X146, rfl, N146, ((Keep.refl hj131 [b2]).trans K146 (allS (Or.inl (List.mem_of_getElem? (i := 0) rfl)) all0)), (a_3 + (1 : Int32)), (A_3 + (1 : Int64)), (1 : Int32), (by rcases h_a_3 with ⟨rfl, rfl⟩ | ⟨rfl, rfl⟩ | ⟨rfl, rfl⟩ | ⟨rfl, rfl⟩ <;> decide), E146c, Fp146, Fa146, pre148⟩
    rcases h_a_4 with ⟨rfl, rfl⟩ | ⟨rfl, rfl⟩ | ⟨rfl, rfl⟩ | ⟨rfl, rfl⟩ | ⟨rfl, rfl⟩
    ·  -- case
      have Zs150 : n0 ≤ hj140.size := (Nat.le_trans (Nat.le_trans (Nat.le_trans (Nat.le_trans Zs4 Kj115.1) Kj122.1) Kj131.1) Kj140.1)
      obtain ⟨cq149, kq149, q149a, q149b, q149c⟩ := isOf hZ ej140 Fj140_0
      obtain ⟨_, _, ⟨T149, L149, k149, n149⟩, -, X149, ⟨Lc149, hQ149, l149, y149, z149⟩, st149⟩ := Xj140.virtualBack hx (y := (⟨"com/example/clockwright/clockwright/mcmc/Acceptance", "rate", "()D"⟩ : MethodName)) (z := (⟨"com/example/clockwright/clockwright/mcmc/Acceptance", "rate", "()D"⟩ : MethodName)) hown (mvT hZ (hw _ (List.mem_of_getElem? (i := 10) rfl))) (mvT hZ (hw _ (List.mem_of_getElem? (i := 11) rfl))) (notFace_of_selects (args := #[]) (mvT hZ (hw _ (List.mem_of_getElem? (i := 13) rfl)))) (mvT hZ (hw _ (List.mem_of_getElem? (i := 13) rfl))) (mvT hZ (hw _ (List.mem_of_getElem? (i := 12) rfl))) (by decide) (backOf (W := 0) (rmR1 l Z a0 hw [] b2 (4 : Int64) (0 : Int64) hj140 n0 Zs150 Fj140_1 Fj140_2 (by decide) (by unfold Jvm.Free.Fl.NoNaN64; decide +kernel)) hZ (hw _ (List.mem_of_getElem? (i := 14) rfl)) (hw _ (List.mem_of_getElem? (i := 3) rfl)) (by decide) (by decide)) q149a q149c (g := (mkF m 148 #[iv p1, iv p2, iv (4 : Int32), rv b2, iv (0 : Int32), iv fz_4, .unset, .unset, .unset] [(.ref b2)])) rfl (by rw [hml]; rfl) (Steps.refl _) (argsL := []) (rest := []) (lenOf pd_1 rfl) rfl (by show 2 * 0 + _ ≤ _; exact Nat.le_of_eq rfl) (hb hby at_148) (fun _ _ => ⟨rfl, ej140, (by decide : 1 + 0 ≤ _), (by decide : 2 + 0 ≤ _)⟩)
      dsimp only [Pt.U, Pt.locs, Pt.cells, Pt.slots] at X149 l149 y149 z149 st149 hQ149
      subst l149 y149 z149
      obtain ⟨hv149, N149q, e149q⟩ := hQ149
      have N149 := Fr.app Nj140 N149q
      rw [show FP.ddiv (FP.l2d (0 : Int64)) (FP.l2d (4 : Int64)) = (0 : UInt64) from by decide +kernel] at hv149
      subst hv149
      have e149 : T149.heap = hj140 := e149q
      obtain ⟨cq151, kq151, q151a, q151b, q151c⟩ := isOf hZ e149 Fj140_0
      obtain ⟨_, _, ⟨T151, L151, k151, n151⟩, -, X151, ⟨Lc151, hQ151, l151, y151, z151⟩, st151⟩ := X149.virtualBack hx (y := (⟨"com/example/clockwright/clockwright/mcmc/Acceptance", "proposals", "()J"⟩ : MethodName)) (z := (⟨"com/example/clockwright/clockwright/mcmc/Acceptance", "proposals", "()J"⟩ : MethodName)) hown (mvT hZ (hw _ (List.mem_of_getElem? (i := 18) rfl))) (mvT hZ (hw _ (List.mem_of_getElem? (i := 19) rfl))) (notFace_of_selects (args := #[]) (mvT hZ (hw _ (List.mem_of_getElem? (i := 21) rfl)))) (mvT hZ (hw _ (List.mem_of_getElem? (i := 21) rfl))) (mvT hZ (hw _ (List.mem_of_getElem? (i := 20) rfl))) (by decide) (backOf (W := 0) (rm4 l Z a0 hw [] b2 (4 : Int64) hj140 n0 Zs150 Fj140_1) hZ (hw _ (List.mem_of_getElem? (i := 22) rfl)) (hw _ (List.mem_of_getElem? (i := 3) rfl)) (by decide) (by decide)) q151a q151c (g := (mkF m 154 #[iv p1, iv p2, iv (4 : Int32), rv b2, iv (0 : Int32), .val (.double (0 : UInt64)), .second, .unset, .unset] [(.ref b2)])) rfl (by rw [hml]; rfl) (Steps.refl _) (argsL := []) (rest := []) (lenOf pd_2 rfl) rfl (by show 2 * 0 + _ ≤ _; exact Nat.le_of_eq rfl) (hb hby at_154) (fun _ _ => ⟨rfl, e149, (by decide : 1 + 0 ≤ _), (by decide : 2 + 0 ≤ _)⟩)
      dsimp only [Pt.U, Pt.locs, Pt.cells, Pt.slots] at X151 l151 y151 z151 st151 hQ151
      subst l151 y151 z151
      obtain ⟨rfl, N151q, e151q⟩ := hQ151
      have N151 := Fr.app N149 N151q
      have e151 : T151.heap = hj140 := e151q
      obtain ⟨cq152, kq152, q152a, q152b, q152c⟩ := isOf hZ e151 Fj140_0
      obtain ⟨_, _, ⟨T152, L152, k152, n152⟩, -, X152, ⟨Lc152, hQ152, l152, y152, z152⟩, st152⟩ := X151.virtualBack hx (y := (⟨"com/example/clockwright/clockwright/mcmc/Acceptance", "accepted", "()J"⟩ : MethodName)) (z := (⟨"com/example/clockwright/clockwright/mcmc/Acceptance", "accepted", "()J"⟩ : MethodName)) hown (mvT hZ (hw _ (List.mem_of_getElem? (i := 23) rfl))) (mvT hZ (hw _ (List.mem_of_getElem? (i := 24) rfl))) (notFace_of_selects (args := #[]) (mvT hZ (hw _ (List.mem_of_getElem? (i := 26) rfl)))) (mvT hZ (hw _ (List.mem_of_getElem? (i := 26) rfl))) (mvT hZ (hw _ (List.mem_of_getElem? (i := 25) rfl))) (by decide) (backOf (W := 0) (rm5 l Z a0 hw [] b2 (0 : Int64) hj140 n0 Zs150 Fj140_2) hZ (hw _ (List.mem_of_getElem? (i := 27) rfl)) (hw _ (List.mem_of_getElem? (i := 3) rfl)) (by decide) (by decide)) q152a q152c (g := (mkF m 164 #[iv p1, iv p2, iv (4 : Int32), rv b2, iv (0 : Int32), .val (.double (0 : UInt64)), .second, .unset, .unset] [(.ref b2)])) rfl (by rw [hml]; rfl) (Steps.refl _) (argsL := []) (rest := []) (lenOf pd_2 rfl) rfl (by show 2 * 0 + _ ≤ _; exact Nat.le_of_eq rfl) (hb hby at_164) (fun _ _ => ⟨rfl, e151, (by decide : 1 + 0 ≤ _), (by decide : 2 + 0 ≤ _)⟩)
      dsimp only [Pt.U, Pt.locs, Pt.cells, Pt.slots] at X152 l152 y152 z152 st152 hQ152
      subst l152 y152 z152
      obtain ⟨rfl, N152q, e152q⟩ := hQ152
      have N152 := Fr.app N151 N152q
      have e152 : T152.heap = hj140 := e152q
      obtain ⟨_, _, ⟨T153, L153, k153, n153⟩, -, X153, ⟨Lc153, hQ153, l153, y153, z153⟩, st153⟩ := Jvm.LawKit.callS X152 hx (y := (⟨"com/example/clockwright/clockwright/mcmc/AcceptanceRatePinLaw", "expected", "(II)D"⟩ : MethodName)) hown (mvT hZ (hw _ (List.mem_of_getElem? (i := 35) rfl))) (mvT hZ (hw _ (List.mem_of_getElem? (i := 36) rfl))) (mvT hZ (hw _ (List.mem_of_getElem? (i := 37) rfl))) (mvT hZ (hw _ (List.mem_of_getElem? (i := 38) rfl))) (by decide) (backOf (W := 0) (rm7 l Z a0 hw [] (4 : Int32) (0 : Int32) hj140 n0 Zs150 ) hZ (hw _ (List.mem_of_getElem? (i := 38) rfl)) (hw _ (List.mem_of_getElem? (i := 37) rfl)) (by decide) (by decide)) (g := (mkF m 197 #[iv p1, iv p2, iv (4 : Int32), rv b2, iv (0 : Int32), .val (.double (0 : UInt64)), .second, .unset, .unset] [(.int (0 : Int32)), (.int (4 : Int32))])) rfl (by rw [hml]; rfl) (argsL := [(.int (4 : Int32)), (.int (0 : Int32))]) (rest := []) (lenOf pd_4 rfl) rfl (by show 2 * 0 + _ ≤ _; exact Nat.le_of_eq rfl) (hb hby at_197) (fun _ _ => ⟨rfl, e152, (by decide : 1 + 0 ≤ _), (by decide : 2 + 0 ≤ _)⟩)
      dsimp only [Pt.U, Pt.locs, Pt.cells, Pt.slots] at X153 l153 y153 z153 st153 hQ153
      subst l153 y153 z153
      obtain ⟨hv153, N153q, e153q⟩ := hQ153
      have N153 := Fr.app N152 N153q
      rw [show own_exp (4 : Int32) (0 : Int32) = (0 : UInt64) from by decide] at hv153
      subst hv153
      have e153 : T153.heap = hj140 := e153q
      have pre154 : ∀ tg, own_S p e below T153 m 229 #[iv p1, iv p2, iv (4 : Int32), rv b2, iv (0 : Int32), .val (.double (0 : UInt64)), .second, .val (.double (0 : UInt64)), .second] [(.int (1 : Int32))] tg → Steps p.tables e below (s₁.setTop (entryFrame m #[(.int p1), (.int p2)] maxLocals)) tg := fun tg k => prej140 tg (by
        show own_S p e below Tj140 m 147 #[iv p1, iv p2, iv (4 : Int32), rv b2, iv (0 : Int32), iv fz_4, .unset, .unset, .unset] [] _
        refine XS.aloadN Xj140.here hx rfl (hb hby at_147) rfl rfl ?_
        show own_S p e below Tj140 m 148 #[iv p1, iv p2, iv (4 : Int32), rv b2, iv (0 : Int32), iv fz_4, .unset, .unset, .unset] [(.ref b2)] _
        refine st149.trans ?_
        show own_S p e below T149 m 151 #[iv p1, iv p2, iv (4 : Int32), rv b2, iv (0 : Int32), iv fz_4, .unset, .unset, .unset] [(.double (0 : UInt64))] _
        refine XS.dstore X149.here hx rfl (hb hby at_151) rfl (l' := #[iv p1, iv p2, iv (4 : Int32), rv b2, iv (0 : Int32), .val (.double (0 : UInt64)), .second, .unset, .unset]) rfl ?_
        show own_S p e below T149 m 153 #[iv p1, iv p2, iv (4 : Int32), rv b2, iv (0 : Int32), .val (.double (0 : UInt64)), .second, .unset, .unset] [] _
        refine XS.aloadN X149.here hx rfl (hb hby at_153) rfl rfl ?_
        show own_S p e below T149 m 154 #[iv p1, iv p2, iv (4 : Int32), rv b2, iv (0 : Int32), .val (.double (0 : UInt64)), .second, .unset, .unset] [(.ref b2)] _
        refine st151.trans ?_
        show own_S p e below T151 m 157 #[iv p1, iv p2, iv (4 : Int32), rv b2, iv (0 : Int32), .val (.double (0 : UInt64)), .second, .unset, .unset] [(.long (4 : Int64))] _
        refine XS.iloadN X151.here hx rfl (hb hby at_157) rfl ?_
        show own_S p e below T151 m 158 #[iv p1, iv p2, iv (4 : Int32), rv b2, iv (0 : Int32), .val (.double (0 : UInt64)), .second, .unset, .unset] [(.int (4 : Int32)), (.long (4 : Int64))] _
        refine XS.i2l X151.here hx rfl (hb hby at_158) rfl ?_
        show own_S p e below T151 m 159 #[iv p1, iv p2, iv (4 : Int32), rv b2, iv (0 : Int32), .val (.double (0 : UInt64)), .second, .unset, .unset] [(.long ((4 : Int32).toInt64)), (.long (4 : Int64))] _
        refine XS.lcmp X151.here hx rfl (hb hby at_159) rfl ?_
        show own_S p e below T151 m 160 #[iv p1, iv p2, iv (4 : Int32), rv b2, iv (0 : Int32), .val (.double (0 : UInt64)), .second, .unset, .unset] [(.int (lcmpW (4 : Int64) ((4 : Int32).toInt64)))] _
        refine XS.ifNo X151.here hx rfl (hb hby at_160) rfl ((if0 _ _).trans (teq ((lw_eq _ _).mpr (by decide : (4 : Int64) = ((4 : Int32).toInt64)))).2) ?_
        show own_S p e below T151 m 163 #[iv p1, iv p2, iv (4 : Int32), rv b2, iv (0 : Int32), .val (.double (0 : UInt64)), .second, .unset, .unset] [] _
        refine XS.aloadN X151.here hx rfl (hb hby at_163) rfl rfl ?_
        show own_S p e below T151 m 164 #[iv p1, iv p2, iv (4 : Int32), rv b2, iv (0 : Int32), .val (.double (0 : UInt64)), .second, .unset, .unset] [(.ref b2)] _
        refine st152.trans ?_
        show own_S p e below T152 m 167 #[iv p1, iv p2, iv (4 : Int32), rv b2, iv (0 : Int32), .val (.double (0 : UInt64)), .second, .unset, .unset] [(.long (0 : Int64))] _
        refine XS.iload X152.here hx rfl (hb hby at_167) rfl ?_
        show own_S p e below T152 m 169 #[iv p1, iv p2, iv (4 : Int32), rv b2, iv (0 : Int32), .val (.double (0 : UInt64)), .second, .unset, .unset] [(.int (0 : Int32)), (.long (0 : Int64))] _
        refine XS.i2l X152.here hx rfl (hb hby at_169) rfl ?_
        show own_S p e below T152 m 170 #[iv p1, iv p2, iv (4 : Int32), rv b2, iv (0 : Int32), .val (.double (0 : UInt64)), .second, .unset, .unset] [(.long ((0 : Int32).toInt64)), (.long (0 : Int64))] _
        refine XS.lcmp X152.here hx rfl (hb hby at_170) rfl ?_
        show own_S p e below T152 m 171 #[iv p1, iv p2, iv (4 : Int32), rv b2, iv (0 : Int32), .val (.double (0 : UInt64)), .second, .unset, .unset] [(.int (lcmpW (0 : Int64) ((0 : Int32).toInt64)))] _
        refine XS.ifYes X152.here hx rfl (pc0 := 171) (pc' := 176) rfl (hb hby at_171) rfl ((if0 _ _).trans (teq ((lw_eq _ _).mpr (by decide : (0 : Int64) = ((0 : Int32).toInt64)))).1) (by decide) (by decide) ?_
        show own_S p e below T152 m 176 #[iv p1, iv p2, iv (4 : Int32), rv b2, iv (0 : Int32), .val (.double (0 : UInt64)), .second, .unset, .unset] [] _
        refine XS.iloadN X152.here hx rfl (hb hby at_176) rfl ?_
        show own_S p e below T152 m 177 #[iv p1, iv p2, iv (4 : Int32), rv b2, iv (0 : Int32), .val (.double (0 : UInt64)), .second, .unset, .unset] [(.int (4 : Int32))] _
        refine XS.ifYes X152.here hx rfl (pc0 := 177) (pc' := 194) rfl (hb hby at_177) rfl ((if0 _ _).trans (feq (by decide : ¬ ((4 : Int32) = (0 : Int32)))).2) (by decide) (by decide) ?_
        show own_S p e below T152 m 194 #[iv p1, iv p2, iv (4 : Int32), rv b2, iv (0 : Int32), .val (.double (0 : UInt64)), .second, .unset, .unset] [] _
        refine XS.iloadN X152.here hx rfl (hb hby at_194) rfl ?_
        show own_S p e below T152 m 195 #[iv p1, iv p2, iv (4 : Int32), rv b2, iv (0 : Int32), .val (.double (0 : UInt64)), .second, .unset, .unset] [(.int (4 : Int32))] _
        refine XS.iload X152.here hx rfl (hb hby at_195) rfl ?_
        show own_S p e below T152 m 197 #[iv p1, iv p2, iv (4 : Int32), rv b2, iv (0 : Int32), .val (.double (0 : UInt64)), .second, .unset, .unset] [(.int (0 : Int32)), (.int (4 : Int32))] _
        refine st153 _ ?_
        show own_S p e below T153 m 200 #[iv p1, iv p2, iv (4 : Int32), rv b2, iv (0 : Int32), .val (.double (0 : UInt64)), .second, .unset, .unset] [(.double (0 : UInt64))] _
        refine XS.dstore X153.here hx rfl (hb hby at_200) rfl (l' := #[iv p1, iv p2, iv (4 : Int32), rv b2, iv (0 : Int32), .val (.double (0 : UInt64)), .second, .val (.double (0 : UInt64)), .second]) rfl ?_
        show own_S p e below T153 m 202 #[iv p1, iv p2, iv (4 : Int32), rv b2, iv (0 : Int32), .val (.double (0 : UInt64)), .second, .val (.double (0 : UInt64)), .second] [] _
        refine XS.dload X153.here hx rfl (hb hby at_202) rfl ?_
        show own_S p e below T153 m 204 #[iv p1, iv p2, iv (4 : Int32), rv b2, iv (0 : Int32), .val (.double (0 : UInt64)), .second, .val (.double (0 : UInt64)), .second] [(.double (0 : UInt64))] _
        refine XS.dload X153.here hx rfl (hb hby at_204) rfl ?_
        show own_S p e below T153 m 206 #[iv p1, iv p2, iv (4 : Int32), rv b2, iv (0 : Int32), .val (.double (0 : UInt64)), .second, .val (.double (0 : UInt64)), .second] [(.double (0 : UInt64)), (.double (0 : UInt64))] _
        refine XS.dcmpS X153.here hx rfl (hb hby at_206) rfl (v := (0 : Int32)) (by decide +kernel) ?_
        show own_S p e below T153 m 207 #[iv p1, iv p2, iv (4 : Int32), rv b2, iv (0 : Int32), .val (.double (0 : UInt64)), .second, .val (.double (0 : UInt64)), .second] [(.int (0 : Int32))] _
        refine XS.ifNo X153.here hx rfl (hb hby at_207) rfl ((if0 _ _).trans (teq (by decide : (0 : Int32) = (0 : Int32))).2) ?_
        show own_S p e below T153 m 210 #[iv p1, iv p2, iv (4 : Int32), rv b2, iv (0 : Int32), .val (.double (0 : UInt64)), .second, .val (.double (0 : UInt64)), .second] [] _
        refine XS.dconst0 X153.here hx rfl (hb hby at_210) (v := (0 : UInt64)) rfl ?_
        show own_S p e below T153 m 211 #[iv p1, iv p2, iv (4 : Int32), rv b2, iv (0 : Int32), .val (.double (0 : UInt64)), .second, .val (.double (0 : UInt64)), .second] [(.double (0 : UInt64))] _
        refine XS.dload X153.here hx rfl (hb hby at_211) rfl ?_
        show own_S p e below T153 m 213 #[iv p1, iv p2, iv (4 : Int32), rv b2, iv (0 : Int32), .val (.double (0 : UInt64)), .second, .val (.double (0 : UInt64)), .second] [(.double (0 : UInt64)), (.double (0 : UInt64))] _
        refine XS.dcmpS X153.here hx rfl (hb hby at_213) rfl (v := (0 : Int32)) (by decide +kernel) ?_
        show own_S p e below T153 m 214 #[iv p1, iv p2, iv (4 : Int32), rv b2, iv (0 : Int32), .val (.double (0 : UInt64)), .second, .val (.double (0 : UInt64)), .second] [(.int (0 : Int32))] _
        refine XS.ifNo X153.here hx rfl (hb hby at_214) rfl ((if0 _ _).trans (flt (by decide : ¬ ((0 : Int32) < (0 : Int32)))).2.2.1) ?_
        show own_S p e below T153 m 217 #[iv p1, iv p2, iv (4 : Int32), rv b2, iv (0 : Int32), .val (.double (0 : UInt64)), .second, .val (.double (0 : UInt64)), .second] [] _
        refine XS.dload X153.here hx rfl (hb hby at_217) rfl ?_
        show own_S p e below T153 m 219 #[iv p1, iv p2, iv (4 : Int32), rv b2, iv (0 : Int32), .val (.double (0 : UInt64)), .second, .val (.double (0 : UInt64)), .second] [(.double (0 : UInt64))] _
        refine XS.dconst1 X153.here hx rfl (hb hby at_219) (v := (4607182418800017408 : UInt64)) rfl ?_
        show own_S p e below T153 m 220 #[iv p1, iv p2, iv (4 : Int32), rv b2, iv (0 : Int32), .val (.double (0 : UInt64)), .second, .val (.double (0 : UInt64)), .second] [(.double (4607182418800017408 : UInt64)), (.double (0 : UInt64))] _
        refine XS.dcmpS X153.here hx rfl (hb hby at_220) rfl (v := (-1 : Int32)) (by decide +kernel) ?_
        show own_S p e below T153 m 221 #[iv p1, iv p2, iv (4 : Int32), rv b2, iv (0 : Int32), .val (.double (0 : UInt64)), .second, .val (.double (0 : UInt64)), .second] [(.int (-1 : Int32))] _
        refine XS.ifNo X153.here hx rfl (hb hby at_221) rfl ((if0 _ _).trans (flt (by decide : ¬ ((0 : Int32) < (-1 : Int32)))).2.2.1) ?_
        show own_S p e below T153 m 224 #[iv p1, iv p2, iv (4 : Int32), rv b2, iv (0 : Int32), .val (.double (0 : UInt64)), .second, .val (.double (0 : UInt64)), .second] [] _
        refine XS.iconst X153.here hx rfl (hb hby at_224) ?_
        show own_S p e below T153 m 225 #[iv p1, iv p2, iv (4 : Int32), rv b2, iv (0 : Int32), .val (.double (0 : UInt64)), .second, .val (.double (0 : UInt64)), .second] [(.int (1 : Int32))] _
        refine XS.goto X153.here hx rfl (pc0 := 225) (pc' := 229) rfl (hb hby at_225) (by decide) (by decide) ?_
        exact k)
      obtain ⟨fs, hr, hrun, hended, hW, hsame⟩ := X153.leave (v := some (.int (nar .boolean (1 : Int32)))) (fun h => by rw [Bd.returns] at h; cases h)
      refine ⟨_, _, pre154 _ ?_, hrun, hended, _, _, rfl, ?_, ⟨_, rfl⟩, hW, hsame.mono (by decide) (by decide)⟩
      · show own_S p e below T153 m 229 #[iv p1, iv p2, iv (4 : Int32), rv b2, iv (0 : Int32), .val (.double (0 : UInt64)), .second, .val (.double (0 : UInt64)), .second] [(.int (1 : Int32))] _
        exact retN X153 hx (t := .boolean) Bd.returns (by simp) (hb hby at_229) hr
      · show Q0 Z p1 p2 h0 n0 _ T153.heap _
        rw [e153]
        exact ⟨rfl, N153⟩
    ·  -- case
      have Zs156 : n0 ≤ hj140.size := (Nat.le_trans (Nat.le_trans (Nat.le_trans (Nat.le_trans Zs4 Kj115.1) Kj122.1) Kj131.1) Kj140.1)
      obtain ⟨cq155, kq155, q155a, q155b, q155c⟩ := isOf hZ ej140 Fj140_0
      obtain ⟨_, _, ⟨T155, L155, k155, n155⟩, -, X155, ⟨Lc155, hQ155, l155, y155, z155⟩, st155⟩ := Xj140.virtualBack hx (y := (⟨"com/example/clockwright/clockwright/mcmc/Acceptance", "rate", "()D"⟩ : MethodName)) (z := (⟨"com/example/clockwright/clockwright/mcmc/Acceptance", "rate", "()D"⟩ : MethodName)) hown (mvT hZ (hw _ (List.mem_of_getElem? (i := 10) rfl))) (mvT hZ (hw _ (List.mem_of_getElem? (i := 11) rfl))) (notFace_of_selects (args := #[]) (mvT hZ (hw _ (List.mem_of_getElem? (i := 13) rfl)))) (mvT hZ (hw _ (List.mem_of_getElem? (i := 13) rfl))) (mvT hZ (hw _ (List.mem_of_getElem? (i := 12) rfl))) (by decide) (backOf (W := 0) (rmR1 l Z a0 hw [] b2 (4 : Int64) (1 : Int64) hj140 n0 Zs156 Fj140_1 Fj140_2 (by decide) (by unfold Jvm.Free.Fl.NoNaN64; decide +kernel)) hZ (hw _ (List.mem_of_getElem? (i := 14) rfl)) (hw _ (List.mem_of_getElem? (i := 3) rfl)) (by decide) (by decide)) q155a q155c (g := (mkF m 148 #[iv p1, iv p2, iv (4 : Int32), rv b2, iv (1 : Int32), iv fz_4, .unset, .unset, .unset] [(.ref b2)])) rfl (by rw [hml]; rfl) (Steps.refl _) (argsL := []) (rest := []) (lenOf pd_1 rfl) rfl (by show 2 * 0 + _ ≤ _; exact Nat.le_of_eq rfl) (hb hby at_148) (fun _ _ => ⟨rfl, ej140, (by decide : 1 + 0 ≤ _), (by decide : 2 + 0 ≤ _)⟩)
      dsimp only [Pt.U, Pt.locs, Pt.cells, Pt.slots] at X155 l155 y155 z155 st155 hQ155
      subst l155 y155 z155
      obtain ⟨hv155, N155q, e155q⟩ := hQ155
      have N155 := Fr.app Nj140 N155q
      rw [show FP.ddiv (FP.l2d (1 : Int64)) (FP.l2d (4 : Int64)) = (4598175219545276416 : UInt64) from by decide +kernel] at hv155
      subst hv155
      have e155 : T155.heap = hj140 := e155q
      obtain ⟨cq157, kq157, q157a, q157b, q157c⟩ := isOf hZ e155 Fj140_0
      obtain ⟨_, _, ⟨T157, L157, k157, n157⟩, -, X157, ⟨Lc157, hQ157, l157, y157, z157⟩, st157⟩ := X155.virtualBack hx (y := (⟨"com/example/clockwright/clockwright/mcmc/Acceptance", "proposals", "()J"⟩ : MethodName)) (z := (⟨"com/example/clockwright/clockwright/mcmc/Acceptance", "proposals", "()J"⟩ : MethodName)) hown (mvT hZ (hw _ (List.mem_of_getElem? (i := 18) rfl))) (mvT hZ (hw _ (List.mem_of_getElem? (i := 19) rfl))) (notFace_of_selects (args := #[]) (mvT hZ (hw _ (List.mem_of_getElem? (i := 21) rfl)))) (mvT hZ (hw _ (List.mem_of_getElem? (i := 21) rfl))) (mvT hZ (hw _ (List.mem_of_getElem? (i := 20) rfl))) (by decide) (backOf (W := 0) (rm4 l Z a0 hw [] b2 (4 : Int64) hj140 n0 Zs156 Fj140_1) hZ (hw _ (List.mem_of_getElem? (i := 22) rfl)) (hw _ (List.mem_of_getElem? (i := 3) rfl)) (by decide) (by decide)) q157a q157c (g := (mkF m 154 #[iv p1, iv p2, iv (4 : Int32), rv b2, iv (1 : Int32), .val (.double (4598175219545276416 : UInt64)), .second, .unset, .unset] [(.ref b2)])) rfl (by rw [hml]; rfl) (Steps.refl _) (argsL := []) (rest := []) (lenOf pd_2 rfl) rfl (by show 2 * 0 + _ ≤ _; exact Nat.le_of_eq rfl) (hb hby at_154) (fun _ _ => ⟨rfl, e155, (by decide : 1 + 0 ≤ _), (by decide : 2 + 0 ≤ _)⟩)
      dsimp only [Pt.U, Pt.locs, Pt.cells, Pt.slots] at X157 l157 y157 z157 st157 hQ157
      subst l157 y157 z157
      obtain ⟨rfl, N157q, e157q⟩ := hQ157
      have N157 := Fr.app N155 N157q
      have e157 : T157.heap = hj140 := e157q
      obtain ⟨cq158, kq158, q158a, q158b, q158c⟩ := isOf hZ e157 Fj140_0
      obtain ⟨_, _, ⟨T158, L158, k158, n158⟩, -, X158, ⟨Lc158, hQ158, l158, y158, z158⟩, st158⟩ := X157.virtualBack hx (y := (⟨"com/example/clockwright/clockwright/mcmc/Acceptance", "accepted", "()J"⟩ : MethodName)) (z := (⟨"com/example/clockwright/clockwright/mcmc/Acceptance", "accepted", "()J"⟩ : MethodName)) hown (mvT hZ (hw _ (List.mem_of_getElem? (i := 23) rfl))) (mvT hZ (hw _ (List.mem_of_getElem? (i := 24) rfl))) (notFace_of_selects (args := #[]) (mvT hZ (hw _ (List.mem_of_getElem? (i := 26) rfl)))) (mvT hZ (hw _ (List.mem_of_getElem? (i := 26) rfl))) (mvT hZ (hw _ (List.mem_of_getElem? (i := 25) rfl))) (by decide) (backOf (W := 0) (rm5 l Z a0 hw [] b2 (1 : Int64) hj140 n0 Zs156 Fj140_2) hZ (hw _ (List.mem_of_getElem? (i := 27) rfl)) (hw _ (List.mem_of_getElem? (i := 3) rfl)) (by decide) (by decide)) q158a q158c (g := (mkF m 164 #[iv p1, iv p2, iv (4 : Int32), rv b2, iv (1 : Int32), .val (.double (4598175219545276416 : UInt64)), .second, .unset, .unset] [(.ref b2)])) rfl (by rw [hml]; rfl) (Steps.refl _) (argsL := []) (rest := []) (lenOf pd_2 rfl) rfl (by show 2 * 0 + _ ≤ _; exact Nat.le_of_eq rfl) (hb hby at_164) (fun _ _ => ⟨rfl, e157, (by decide : 1 + 0 ≤ _), (by decide : 2 + 0 ≤ _)⟩)
      dsimp only [Pt.U, Pt.locs, Pt.cells, Pt.slots] at X158 l158 y158 z158 st158 hQ158
      subst l158 y158 z158
      obtain ⟨rfl, N158q, e158q⟩ := hQ158
      have N158 := Fr.app N157 N158q
      have e158 : T158.heap = hj140 := e158q
      obtain ⟨_, _, ⟨T159, L159, k159, n159⟩, -, X159, ⟨Lc159, hQ159, l159, y159, z159⟩, st159⟩ := Jvm.LawKit.callS X158 hx (y := (⟨"com/example/clockwright/clockwright/mcmc/AcceptanceRatePinLaw", "expected", "(II)D"⟩ : MethodName)) hown (mvT hZ (hw _ (List.mem_of_getElem? (i := 35) rfl))) (mvT hZ (hw _ (List.mem_of_getElem? (i := 36) rfl))) (mvT hZ (hw _ (List.mem_of_getElem? (i := 37) rfl))) (mvT hZ (hw _ (List.mem_of_getElem? (i := 38) rfl))) (by decide) (backOf (W := 0) (rm7 l Z a0 hw [] (4 : Int32) (1 : Int32) hj140 n0 Zs156 ) hZ (hw _ (List.mem_of_getElem? (i := 38) rfl)) (hw _ (List.mem_of_getElem? (i := 37) rfl)) (by decide) (by decide)) (g := (mkF m 197 #[iv p1, iv p2, iv (4 : Int32), rv b2, iv (1 : Int32), .val (.double (4598175219545276416 : UInt64)), .second, .unset, .unset] [(.int (1 : Int32)), (.int (4 : Int32))])) rfl (by rw [hml]; rfl) (argsL := [(.int (4 : Int32)), (.int (1 : Int32))]) (rest := []) (lenOf pd_4 rfl) rfl (by show 2 * 0 + _ ≤ _; exact Nat.le_of_eq rfl) (hb hby at_197) (fun _ _ => ⟨rfl, e158, (by decide : 1 + 0 ≤ _), (by decide : 2 + 0 ≤ _)⟩)
      dsimp only [Pt.U, Pt.locs, Pt.cells, Pt.slots] at X159 l159 y159 z159 st159 hQ159
      subst l159 y159 z159
      obtain ⟨hv159, N159q, e159q⟩ := hQ159
      have N159 := Fr.app N158 N159q
      rw [show own_exp (4 : Int32) (1 : Int32) = (4598175219545276416 : UInt64) from by decide] at hv159
      subst hv159
      have e159 : T159.heap = hj140 := e159q
      have pre160 : ∀ tg, own_S p e below T159 m 229 #[iv p1, iv p2, iv (4 : Int32), rv b2, iv (1 : Int32), .val (.double (4598175219545276416 : UInt64)), .second, .val (.double (4598175219545276416 : UInt64)), .second] [(.int (1 : Int32))] tg → Steps p.tables e below (s₁.setTop (entryFrame m #[(.int p1), (.int p2)] maxLocals)) tg := fun tg k => prej140 tg (by
        show own_S p e below Tj140 m 147 #[iv p1, iv p2, iv (4 : Int32), rv b2, iv (1 : Int32), iv fz_4, .unset, .unset, .unset] [] _
        refine XS.aloadN Xj140.here hx rfl (hb hby at_147) rfl rfl ?_
        show own_S p e below Tj140 m 148 #[iv p1, iv p2, iv (4 : Int32), rv b2, iv (1 : Int32), iv fz_4, .unset, .unset, .unset] [(.ref b2)] _
        refine st155.trans ?_
        show own_S p e below T155 m 151 #[iv p1, iv p2, iv (4 : Int32), rv b2, iv (1 : Int32), iv fz_4, .unset, .unset, .unset] [(.double (4598175219545276416 : UInt64))] _
        refine XS.dstore X155.here hx rfl (hb hby at_151) rfl (l' := #[iv p1, iv p2, iv (4 : Int32), rv b2, iv (1 : Int32), .val (.double (4598175219545276416 : UInt64)), .second, .unset, .unset]) rfl ?_
        show own_S p e below T155 m 153 #[iv p1, iv p2, iv (4 : Int32), rv b2, iv (1 : Int32), .val (.double (4598175219545276416 : UInt64)), .second, .unset, .unset] [] _
        refine XS.aloadN X155.here hx rfl (hb hby at_153) rfl rfl ?_
        show own_S p e below T155 m 154 #[iv p1, iv p2, iv (4 : Int32), rv b2, iv (1 : Int32), .val (.double (4598175219545276416 : UInt64)), .second, .unset, .unset] [(.ref b2)] _
        refine st157.trans ?_
        show own_S p e below T157 m 157 #[iv p1, iv p2, iv (4 : Int32), rv b2, iv (1 : Int32), .val (.double (4598175219545276416 : UInt64)), .second, .unset, .unset] [(.long (4 : Int64))] _
        refine XS.iloadN X157.here hx rfl (hb hby at_157) rfl ?_
        show own_S p e below T157 m 158 #[iv p1, iv p2, iv (4 : Int32), rv b2, iv (1 : Int32), .val (.double (4598175219545276416 : UInt64)), .second, .unset, .unset] [(.int (4 : Int32)), (.long (4 : Int64))] _
        refine XS.i2l X157.here hx rfl (hb hby at_158) rfl ?_
        show own_S p e below T157 m 159 #[iv p1, iv p2, iv (4 : Int32), rv b2, iv (1 : Int32), .val (.double (4598175219545276416 : UInt64)), .second, .unset, .unset] [(.long ((4 : Int32).toInt64)), (.long (4 : Int64))] _
        refine XS.lcmp X157.here hx rfl (hb hby at_159) rfl ?_
        show own_S p e below T157 m 160 #[iv p1, iv p2, iv (4 : Int32), rv b2, iv (1 : Int32), .val (.double (4598175219545276416 : UInt64)), .second, .unset, .unset] [(.int (lcmpW (4 : Int64) ((4 : Int32).toInt64)))] _
        refine XS.ifNo X157.here hx rfl (hb hby at_160) rfl ((if0 _ _).trans (teq ((lw_eq _ _).mpr (by decide : (4 : Int64) = ((4 : Int32).toInt64)))).2) ?_
        show own_S p e below T157 m 163 #[iv p1, iv p2, iv (4 : Int32), rv b2, iv (1 : Int32), .val (.double (4598175219545276416 : UInt64)), .second, .unset, .unset] [] _
        refine XS.aloadN X157.here hx rfl (hb hby at_163) rfl rfl ?_
        show own_S p e below T157 m 164 #[iv p1, iv p2, iv (4 : Int32), rv b2, iv (1 : Int32), .val (.double (4598175219545276416 : UInt64)), .second, .unset, .unset] [(.ref b2)] _
        refine st158.trans ?_
        show own_S p e below T158 m 167 #[iv p1, iv p2, iv (4 : Int32), rv b2, iv (1 : Int32), .val (.double (4598175219545276416 : UInt64)), .second, .unset, .unset] [(.long (1 : Int64))] _
        refine XS.iload X158.here hx rfl (hb hby at_167) rfl ?_
        show own_S p e below T158 m 169 #[iv p1, iv p2, iv (4 : Int32), rv b2, iv (1 : Int32), .val (.double (4598175219545276416 : UInt64)), .second, .unset, .unset] [(.int (1 : Int32)), (.long (1 : Int64))] _
        refine XS.i2l X158.here hx rfl (hb hby at_169) rfl ?_
        show own_S p e below T158 m 170 #[iv p1, iv p2, iv (4 : Int32), rv b2, iv (1 : Int32), .val (.double (4598175219545276416 : UInt64)), .second, .unset, .unset] [(.long ((1 : Int32).toInt64)), (.long (1 : Int64))] _
        refine XS.lcmp X158.here hx rfl (hb hby at_170) rfl ?_
        show own_S p e below T158 m 171 #[iv p1, iv p2, iv (4 : Int32), rv b2, iv (1 : Int32), .val (.double (4598175219545276416 : UInt64)), .second, .unset, .unset] [(.int (lcmpW (1 : Int64) ((1 : Int32).toInt64)))] _
        refine XS.ifYes X158.here hx rfl (pc0 := 171) (pc' := 176) rfl (hb hby at_171) rfl ((if0 _ _).trans (teq ((lw_eq _ _).mpr (by decide : (1 : Int64) = ((1 : Int32).toInt64)))).1) (by decide) (by decide) ?_
        show own_S p e below T158 m 176 #[iv p1, iv p2, iv (4 : Int32), rv b2, iv (1 : Int32), .val (.double (4598175219545276416 : UInt64)), .second, .unset, .unset] [] _
        refine XS.iloadN X158.here hx rfl (hb hby at_176) rfl ?_
        show own_S p e below T158 m 177 #[iv p1, iv p2, iv (4 : Int32), rv b2, iv (1 : Int32), .val (.double (4598175219545276416 : UInt64)), .second, .unset, .unset] [(.int (4 : Int32))] _
        refine XS.ifYes X158.here hx rfl (pc0 := 177) (pc' := 194) rfl (hb hby at_177) rfl ((if0 _ _).trans (feq (by decide : ¬ ((4 : Int32) = (0 : Int32)))).2) (by decide) (by decide) ?_
        show own_S p e below T158 m 194 #[iv p1, iv p2, iv (4 : Int32), rv b2, iv (1 : Int32), .val (.double (4598175219545276416 : UInt64)), .second, .unset, .unset] [] _
        refine XS.iloadN X158.here hx rfl (hb hby at_194) rfl ?_
        show own_S p e below T158 m 195 #[iv p1, iv p2, iv (4 : Int32), rv b2, iv (1 : Int32), .val (.double (4598175219545276416 : UInt64)), .second, .unset, .unset] [(.int (4 : Int32))] _
        refine XS.iload X158.here hx rfl (hb hby at_195) rfl ?_
        show own_S p e below T158 m 197 #[iv p1, iv p2, iv (4 : Int32), rv b2, iv (1 : Int32), .val (.double (4598175219545276416 : UInt64)), .second, .unset, .unset] [(.int (1 : Int32)), (.int (4 : Int32))] _
        refine st159 _ ?_
        show own_S p e below T159 m 200 #[iv p1, iv p2, iv (4 : Int32), rv b2, iv (1 : Int32), .val (.double (4598175219545276416 : UInt64)), .second, .unset, .unset] [(.double (4598175219545276416 : UInt64))] _
        refine XS.dstore X159.here hx rfl (hb hby at_200) rfl (l' := #[iv p1, iv p2, iv (4 : Int32), rv b2, iv (1 : Int32), .val (.double (4598175219545276416 : UInt64)), .second, .val (.double (4598175219545276416 : UInt64)), .second]) rfl ?_
        show own_S p e below T159 m 202 #[iv p1, iv p2, iv (4 : Int32), rv b2, iv (1 : Int32), .val (.double (4598175219545276416 : UInt64)), .second, .val (.double (4598175219545276416 : UInt64)), .second] [] _
        refine XS.dload X159.here hx rfl (hb hby at_202) rfl ?_
        show own_S p e below T159 m 204 #[iv p1, iv p2, iv (4 : Int32), rv b2, iv (1 : Int32), .val (.double (4598175219545276416 : UInt64)), .second, .val (.double (4598175219545276416 : UInt64)), .second] [(.double (4598175219545276416 : UInt64))] _
        refine XS.dload X159.here hx rfl (hb hby at_204) rfl ?_
        show own_S p e below T159 m 206 #[iv p1, iv p2, iv (4 : Int32), rv b2, iv (1 : Int32), .val (.double (4598175219545276416 : UInt64)), .second, .val (.double (4598175219545276416 : UInt64)), .second] [(.double (4598175219545276416 : UInt64)), (.double (4598175219545276416 : UInt64))] _
        refine XS.dcmpS X159.here hx rfl (hb hby at_206) rfl (v := (0 : Int32)) (by decide +kernel) ?_
        show own_S p e below T159 m 207 #[iv p1, iv p2, iv (4 : Int32), rv b2, iv (1 : Int32), .val (.double (4598175219545276416 : UInt64)), .second, .val (.double (4598175219545276416 : UInt64)), .second] [(.int (0 : Int32))] _
        refine XS.ifNo X159.here hx rfl (hb hby at_207) rfl ((if0 _ _).trans (teq (by decide : (0 : Int32) = (0 : Int32))).2) ?_
        show own_S p e below T159 m 210 #[iv p1, iv p2, iv (4 : Int32), rv b2, iv (1 : Int32), .val (.double (4598175219545276416 : UInt64)), .second, .val (.double (4598175219545276416 : UInt64)), .second] [] _
        refine XS.dconst0 X159.here hx rfl (hb hby at_210) (v := (0 : UInt64)) rfl ?_
        show own_S p e below T159 m 211 #[iv p1, iv p2, iv (4 : Int32), rv b2, iv (1 : Int32), .val (.double (4598175219545276416 : UInt64)), .second, .val (.double (4598175219545276416 : UInt64)), .second] [(.double (0 : UInt64))] _
        refine XS.dload X159.here hx rfl (hb hby at_211) rfl ?_
        show own_S p e below T159 m 213 #[iv p1, iv p2, iv (4 : Int32), rv b2, iv (1 : Int32), .val (.double (4598175219545276416 : UInt64)), .second, .val (.double (4598175219545276416 : UInt64)), .second] [(.double (4598175219545276416 : UInt64)), (.double (0 : UInt64))] _
        refine XS.dcmpS X159.here hx rfl (hb hby at_213) rfl (v := (-1 : Int32)) (by decide +kernel) ?_
        show own_S p e below T159 m 214 #[iv p1, iv p2, iv (4 : Int32), rv b2, iv (1 : Int32), .val (.double (4598175219545276416 : UInt64)), .second, .val (.double (4598175219545276416 : UInt64)), .second] [(.int (-1 : Int32))] _
        refine XS.ifNo X159.here hx rfl (hb hby at_214) rfl ((if0 _ _).trans (flt (by decide : ¬ ((0 : Int32) < (-1 : Int32)))).2.2.1) ?_
        show own_S p e below T159 m 217 #[iv p1, iv p2, iv (4 : Int32), rv b2, iv (1 : Int32), .val (.double (4598175219545276416 : UInt64)), .second, .val (.double (4598175219545276416 : UInt64)), .second] [] _
        refine XS.dload X159.here hx rfl (hb hby at_217) rfl ?_
        show own_S p e below T159 m 219 #[iv p1, iv p2, iv (4 : Int32), rv b2, iv (1 : Int32), .val (.double (4598175219545276416 : UInt64)), .second, .val (.double (4598175219545276416 : UInt64)), .second] [(.double (4598175219545276416 : UInt64))] _
        refine XS.dconst1 X159.here hx rfl (hb hby at_219) (v := (4607182418800017408 : UInt64)) rfl ?_
        show own_S p e below T159 m 220 #[iv p1, iv p2, iv (4 : Int32), rv b2, iv (1 : Int32), .val (.double (4598175219545276416 : UInt64)), .second, .val (.double (4598175219545276416 : UInt64)), .second] [(.double (4607182418800017408 : UInt64)), (.double (4598175219545276416 : UInt64))] _
        refine XS.dcmpS X159.here hx rfl (hb hby at_220) rfl (v := (-1 : Int32)) (by decide +kernel) ?_
        show own_S p e below T159 m 221 #[iv p1, iv p2, iv (4 : Int32), rv b2, iv (1 : Int32), .val (.double (4598175219545276416 : UInt64)), .second, .val (.double (4598175219545276416 : UInt64)), .second] [(.int (-1 : Int32))] _
        refine XS.ifNo X159.here hx rfl (hb hby at_221) rfl ((if0 _ _).trans (flt (by decide : ¬ ((0 : Int32) < (-1 : Int32)))).2.2.1) ?_
        show own_S p e below T159 m 224 #[iv p1, iv p2, iv (4 : Int32), rv b2, iv (1 : Int32), .val (.double (4598175219545276416 : UInt64)), .second, .val (.double (4598175219545276416 : UInt64)), .second] [] _
        refine XS.iconst X159.here hx rfl (hb hby at_224) ?_
        show own_S p e below T159 m 225 #[iv p1, iv p2, iv (4 : Int32), rv b2, iv (1 : Int32), .val (.double (4598175219545276416 : UInt64)), .second, .val (.double (4598175219545276416 : UInt64)), .second] [(.int (1 : Int32))] _
        refine XS.goto X159.here hx rfl (pc0 := 225) (pc' := 229) rfl (hb hby at_225) (by decide) (by decide) ?_
        exact k)
      obtain ⟨fs, hr, hrun, hended, hW, hsame⟩ := X159.leave (v := some (.int (nar .boolean (1 : Int32)))) (fun h => by rw [Bd.returns] at h; cases h)
      refine ⟨_, _, pre160 _ ?_, hrun, hended, _, _, rfl, ?_, ⟨_, rfl⟩, hW, hsame.mono (by decide) (by decide)⟩
      · show own_S p e below T159 m 229 #[iv p1, iv p2, iv (4 : Int32), rv b2, iv (1 : Int32), .val (.double (4598175219545276416 : UInt64)), .second, .val (.double (4598175219545276416 : UInt64)), .second] [(.int (1 : Int32))] _
        exact retN X159 hx (t := .boolean) Bd.returns (by simp) (hb hby at_229) hr
      · show Q0 Z p1 p2 h0 n0 _ T159.heap _
        rw [e159]
        exact ⟨rfl, N159⟩
    ·  -- case
      have Zs162 : n0 ≤ hj140.size := (Nat.le_trans (Nat.le_trans (Nat.le_trans (Nat.le_trans Zs4 Kj115.1) Kj122.1) Kj131.1) Kj140.1)
      obtain ⟨cq161, kq161, q161a, q161b, q161c⟩ := isOf hZ ej140 Fj140_0
      obtain ⟨_, _, ⟨T161, L161, k161, n161⟩, -, X161, ⟨Lc161, hQ161, l161, y161, z161⟩, st161⟩ := Xj140.virtualBack hx (y := (⟨"com/example/clockwright/clockwright/mcmc/Acceptance", "rate", "()D"⟩ : MethodName)) (z := (⟨"com/example/clockwright/clockwright/mcmc/Acceptance", "rate", "()D"⟩ : MethodName)) hown (mvT hZ (hw _ (List.mem_of_getElem? (i := 10) rfl))) (mvT hZ (hw _ (List.mem_of_getElem? (i := 11) rfl))) (notFace_of_selects (args := #[]) (mvT hZ (hw _ (List.mem_of_getElem? (i := 13) rfl)))) (mvT hZ (hw _ (List.mem_of_getElem? (i := 13) rfl))) (mvT hZ (hw _ (List.mem_of_getElem? (i := 12) rfl))) (by decide) (backOf (W := 0) (rmR1 l Z a0 hw [] b2 (4 : Int64) (2 : Int64) hj140 n0 Zs162 Fj140_1 Fj140_2 (by decide) (by unfold Jvm.Free.Fl.NoNaN64; decide +kernel)) hZ (hw _ (List.mem_of_getElem? (i := 14) rfl)) (hw _ (List.mem_of_getElem? (i := 3) rfl)) (by decide) (by decide)) q161a q161c (g := (mkF m 148 #[iv p1, iv p2, iv (4 : Int32), rv b2, iv (2 : Int32), iv fz_4, .unset, .unset, .unset] [(.ref b2)])) rfl (by rw [hml]; rfl) (Steps.refl _) (argsL := []) (rest := []) (lenOf pd_1 rfl) rfl (by show 2 * 0 + _ ≤ _; exact Nat.le_of_eq rfl) (hb hby at_148) (fun _ _ => ⟨rfl, ej140, (by decide : 1 + 0 ≤ _), (by decide : 2 + 0 ≤ _)⟩)
      dsimp only [Pt.U, Pt.locs, Pt.cells, Pt.slots] at X161 l161 y161 z161 st161 hQ161
      subst l161 y161 z161
      obtain ⟨hv161, N161q, e161q⟩ := hQ161
      have N161 := Fr.app Nj140 N161q
      rw [show FP.ddiv (FP.l2d (2 : Int64)) (FP.l2d (4 : Int64)) = (4602678819172646912 : UInt64) from by decide +kernel] at hv161
      subst hv161
      have e161 : T161.heap = hj140 := e161q
      obtain ⟨cq163, kq163, q163a, q163b, q163c⟩ := isOf hZ e161 Fj140_0
      obtain ⟨_, _, ⟨T163, L163, k163, n163⟩, -, X163, ⟨Lc163, hQ163, l163, y163, z163⟩, st163⟩ := X161.virtualBack hx (y := (⟨"com/example/clockwright/clockwright/mcmc/Acceptance", "proposals", "()J"⟩ : MethodName)) (z := (⟨"com/example/clockwright/clockwright/mcmc/Acceptance", "proposals", "()J"⟩ : MethodName)) hown (mvT hZ (hw _ (List.mem_of_getElem? (i := 18) rfl))) (mvT hZ (hw _ (List.mem_of_getElem? (i := 19) rfl))) (notFace_of_selects (args := #[]) (mvT hZ (hw _ (List.mem_of_getElem? (i := 21) rfl)))) (mvT hZ (hw _ (List.mem_of_getElem? (i := 21) rfl))) (mvT hZ (hw _ (List.mem_of_getElem? (i := 20) rfl))) (by decide) (backOf (W := 0) (rm4 l Z a0 hw [] b2 (4 : Int64) hj140 n0 Zs162 Fj140_1) hZ (hw _ (List.mem_of_getElem? (i := 22) rfl)) (hw _ (List.mem_of_getElem? (i := 3) rfl)) (by decide) (by decide)) q163a q163c (g := (mkF m 154 #[iv p1, iv p2, iv (4 : Int32), rv b2, iv (2 : Int32), .val (.double (4602678819172646912 : UInt64)), .second, .unset, .unset] [(.ref b2)])) rfl (by rw [hml]; rfl) (Steps.refl _) (argsL := []) (rest := []) (lenOf pd_2 rfl) rfl (by show 2 * 0 + _ ≤ _; exact Nat.le_of_eq rfl) (hb hby at_154) (fun _ _ => ⟨rfl, e161, (by decide : 1 + 0 ≤ _), (by decide : 2 + 0 ≤ _)⟩)
      dsimp only [Pt.U, Pt.locs, Pt.cells, Pt.slots] at X163 l163 y163 z163 st163 hQ163
      subst l163 y163 z163
      obtain ⟨rfl, N163q, e163q⟩ := hQ163
      have N163 := Fr.app N161 N163q
      have e163 : T163.heap = hj140 := e163q
      obtain ⟨cq164, kq164, q164a, q164b, q164c⟩ := isOf hZ e163 Fj140_0
      obtain ⟨_, _, ⟨T164, L164, k164, n164⟩, -, X164, ⟨Lc164, hQ164, l164, y164, z164⟩, st164⟩ := X163.virtualBack hx (y := (⟨"com/example/clockwright/clockwright/mcmc/Acceptance", "accepted", "()J"⟩ : MethodName)) (z := (⟨"com/example/clockwright/clockwright/mcmc/Acceptance", "accepted", "()J"⟩ : MethodName)) hown (mvT hZ (hw _ (List.mem_of_getElem? (i := 23) rfl))) (mvT hZ (hw _ (List.mem_of_getElem? (i := 24) rfl))) (notFace_of_selects (args := #[]) (mvT hZ (hw _ (List.mem_of_getElem? (i := 26) rfl)))) (mvT hZ (hw _ (List.mem_of_getElem? (i := 26) rfl))) (mvT hZ (hw _ (List.mem_of_getElem? (i := 25) rfl))) (by decide) (backOf (W := 0) (rm5 l Z a0 hw [] b2 (2 : Int64) hj140 n0 Zs162 Fj140_2) hZ (hw _ (List.mem_of_getElem? (i := 27) rfl)) (hw _ (List.mem_of_getElem? (i := 3) rfl)) (by decide) (by decide)) q164a q164c (g := (mkF m 164 #[iv p1, iv p2, iv (4 : Int32), rv b2, iv (2 : Int32), .val (.double (4602678819172646912 : UInt64)), .second, .unset, .unset] [(.ref b2)])) rfl (by rw [hml]; rfl) (Steps.refl _) (argsL := []) (rest := []) (lenOf pd_2 rfl) rfl (by show 2 * 0 + _ ≤ _; exact Nat.le_of_eq rfl) (hb hby at_164) (fun _ _ => ⟨rfl, e163, (by decide : 1 + 0 ≤ _), (by decide : 2 + 0 ≤ _)⟩)
      dsimp only [Pt.U, Pt.locs, Pt.cells, Pt.slots] at X164 l164 y164 z164 st164 hQ164
      subst l164 y164 z164
      obtain ⟨rfl, N164q, e164q⟩ := hQ164
      have N164 := Fr.app N163 N164q
      have e164 : T164.heap = hj140 := e164q
      obtain ⟨_, _, ⟨T165, L165, k165, n165⟩, -, X165, ⟨Lc165, hQ165, l165, y165, z165⟩, st165⟩ := Jvm.LawKit.callS X164 hx (y := (⟨"com/example/clockwright/clockwright/mcmc/AcceptanceRatePinLaw", "expected", "(II)D"⟩ : MethodName)) hown (mvT hZ (hw _ (List.mem_of_getElem? (i := 35) rfl))) (mvT hZ (hw _ (List.mem_of_getElem? (i := 36) rfl))) (mvT hZ (hw _ (List.mem_of_getElem? (i := 37) rfl))) (mvT hZ (hw _ (List.mem_of_getElem? (i := 38) rfl))) (by decide) (backOf (W := 0) (rm7 l Z a0 hw [] (4 : Int32) (2 : Int32) hj140 n0 Zs162 ) hZ (hw _ (List.mem_of_getElem? (i := 38) rfl)) (hw _ (List.mem_of_getElem? (i := 37) rfl)) (by decide) (by decide)) (g := (mkF m 197 #[iv p1, iv p2, iv (4 : Int32), rv b2, iv (2 : Int32), .val (.double (4602678819172646912 : UInt64)), .second, .unset, .unset] [(.int (2 : Int32)), (.int (4 : Int32))])) rfl (by rw [hml]; rfl) (argsL := [(.int (4 : Int32)), (.int (2 : Int32))]) (rest := []) (lenOf pd_4 rfl) rfl (by show 2 * 0 + _ ≤ _; exact Nat.le_of_eq rfl) (hb hby at_197) (fun _ _ => ⟨rfl, e164, (by decide : 1 + 0 ≤ _), (by decide : 2 + 0 ≤ _)⟩)
      dsimp only [Pt.U, Pt.locs, Pt.cells, Pt.slots] at X165 l165 y165 z165 st165 hQ165
      subst l165 y165 z165
      obtain ⟨hv165, N165q, e165q⟩ := hQ165
      have N165 := Fr.app N164 N165q
      rw [show own_exp (4 : Int32) (2 : Int32) = (4602678819172646912 : UInt64) from by decide] at hv165
      subst hv165
      have e165 : T165.heap = hj140 := e165q
      have pre166 : ∀ tg, own_S p e below T165 m 229 #[iv p1, iv p2, iv (4 : Int32), rv b2, iv (2 : Int32), .val (.double (4602678819172646912 : UInt64)), .second, .val (.double (4602678819172646912 : UInt64)), .second] [(.int (1 : Int32))] tg → Steps p.tables e below (s₁.setTop (entryFrame m #[(.int p1), (.int p2)] maxLocals)) tg := fun tg k => prej140 tg (by
        show own_S p e below Tj140 m 147 #[iv p1, iv p2, iv (4 : Int32), rv b2, iv (2 : Int32), iv fz_4, .unset, .unset, .unset] [] _
        refine XS.aloadN Xj140.here hx rfl (hb hby at_147) rfl rfl ?_
        show own_S p e below Tj140 m 148 #[iv p1, iv p2, iv (4 : Int32), rv b2, iv (2 : Int32), iv fz_4, .unset, .unset, .unset] [(.ref b2)] _
        refine st161.trans ?_
        show own_S p e below T161 m 151 #[iv p1, iv p2, iv (4 : Int32), rv b2, iv (2 : Int32), iv fz_4, .unset, .unset, .unset] [(.double (4602678819172646912 : UInt64))] _
        refine XS.dstore X161.here hx rfl (hb hby at_151) rfl (l' := #[iv p1, iv p2, iv (4 : Int32), rv b2, iv (2 : Int32), .val (.double (4602678819172646912 : UInt64)), .second, .unset, .unset]) rfl ?_
        show own_S p e below T161 m 153 #[iv p1, iv p2, iv (4 : Int32), rv b2, iv (2 : Int32), .val (.double (4602678819172646912 : UInt64)), .second, .unset, .unset] [] _
        refine XS.aloadN X161.here hx rfl (hb hby at_153) rfl rfl ?_
        show own_S p e below T161 m 154 #[iv p1, iv p2, iv (4 : Int32), rv b2, iv (2 : Int32), .val (.double (4602678819172646912 : UInt64)), .second, .unset, .unset] [(.ref b2)] _
        refine st163.trans ?_
        show own_S p e below T163 m 157 #[iv p1, iv p2, iv (4 : Int32), rv b2, iv (2 : Int32), .val (.double (4602678819172646912 : UInt64)), .second, .unset, .unset] [(.long (4 : Int64))] _
        refine XS.iloadN X163.here hx rfl (hb hby at_157) rfl ?_
        show own_S p e below T163 m 158 #[iv p1, iv p2, iv (4 : Int32), rv b2, iv (2 : Int32), .val (.double (4602678819172646912 : UInt64)), .second, .unset, .unset] [(.int (4 : Int32)), (.long (4 : Int64))] _
        refine XS.i2l X163.here hx rfl (hb hby at_158) rfl ?_
        show own_S p e below T163 m 159 #[iv p1, iv p2, iv (4 : Int32), rv b2, iv (2 : Int32), .val (.double (4602678819172646912 : UInt64)), .second, .unset, .unset] [(.long ((4 : Int32).toInt64)), (.long (4 : Int64))] _
        refine XS.lcmp X163.here hx rfl (hb hby at_159) rfl ?_
        show own_S p e below T163 m 160 #[iv p1, iv p2, iv (4 : Int32), rv b2, iv (2 : Int32), .val (.double (4602678819172646912 : UInt64)), .second, .unset, .unset] [(.int (lcmpW (4 : Int64) ((4 : Int32).toInt64)))] _
        refine XS.ifNo X163.here hx rfl (hb hby at_160) rfl ((if0 _ _).trans (teq ((lw_eq _ _).mpr (by decide : (4 : Int64) = ((4 : Int32).toInt64)))).2) ?_
        show own_S p e below T163 m 163 #[iv p1, iv p2, iv (4 : Int32), rv b2, iv (2 : Int32), .val (.double (4602678819172646912 : UInt64)), .second, .unset, .unset] [] _
        refine XS.aloadN X163.here hx rfl (hb hby at_163) rfl rfl ?_
        show own_S p e below T163 m 164 #[iv p1, iv p2, iv (4 : Int32), rv b2, iv (2 : Int32), .val (.double (4602678819172646912 : UInt64)), .second, .unset, .unset] [(.ref b2)] _
        refine st164.trans ?_
        show own_S p e below T164 m 167 #[iv p1, iv p2, iv (4 : Int32), rv b2, iv (2 : Int32), .val (.double (4602678819172646912 : UInt64)), .second, .unset, .unset] [(.long (2 : Int64))] _
        refine XS.iload X164.here hx rfl (hb hby at_167) rfl ?_
        show own_S p e below T164 m 169 #[iv p1, iv p2, iv (4 : Int32), rv b2, iv (2 : Int32), .val (.double (4602678819172646912 : UInt64)), .second, .unset, .unset] [(.int (2 : Int32)), (.long (2 : Int64))] _
        refine XS.i2l X164.here hx rfl (hb hby at_169) rfl ?_
        show own_S p e below T164 m 170 #[iv p1, iv p2, iv (4 : Int32), rv b2, iv (2 : Int32), .val (.double (4602678819172646912 : UInt64)), .second, .unset, .unset] [(.long ((2 : Int32).toInt64)), (.long (2 : Int64))] _
        refine XS.lcmp X164.here hx rfl (hb hby at_170) rfl ?_
        show own_S p e below T164 m 171 #[iv p1, iv p2, iv (4 : Int32), rv b2, iv (2 : Int32), .val (.double (4602678819172646912 : UInt64)), .second, .unset, .unset] [(.int (lcmpW (2 : Int64) ((2 : Int32).toInt64)))] _
        refine XS.ifYes X164.here hx rfl (pc0 := 171) (pc' := 176) rfl (hb hby at_171) rfl ((if0 _ _).trans (teq ((lw_eq _ _).mpr (by decide : (2 : Int64) = ((2 : Int32).toInt64)))).1) (by decide) (by decide) ?_
        show own_S p e below T164 m 176 #[iv p1, iv p2, iv (4 : Int32), rv b2, iv (2 : Int32), .val (.double (4602678819172646912 : UInt64)), .second, .unset, .unset] [] _
        refine XS.iloadN X164.here hx rfl (hb hby at_176) rfl ?_
        show own_S p e below T164 m 177 #[iv p1, iv p2, iv (4 : Int32), rv b2, iv (2 : Int32), .val (.double (4602678819172646912 : UInt64)), .second, .unset, .unset] [(.int (4 : Int32))] _
        refine XS.ifYes X164.here hx rfl (pc0 := 177) (pc' := 194) rfl (hb hby at_177) rfl ((if0 _ _).trans (feq (by decide : ¬ ((4 : Int32) = (0 : Int32)))).2) (by decide) (by decide) ?_
        show own_S p e below T164 m 194 #[iv p1, iv p2, iv (4 : Int32), rv b2, iv (2 : Int32), .val (.double (4602678819172646912 : UInt64)), .second, .unset, .unset] [] _
        refine XS.iloadN X164.here hx rfl (hb hby at_194) rfl ?_
        show own_S p e below T164 m 195 #[iv p1, iv p2, iv (4 : Int32), rv b2, iv (2 : Int32), .val (.double (4602678819172646912 : UInt64)), .second, .unset, .unset] [(.int (4 : Int32))] _
        refine XS.iload X164.here hx rfl (hb hby at_195) rfl ?_
        show own_S p e below T164 m 197 #[iv p1, iv p2, iv (4 : Int32), rv b2, iv (2 : Int32), .val (.double (4602678819172646912 : UInt64)), .second, .unset, .unset] [(.int (2 : Int32)), (.int (4 : Int32))] _
        refine st165 _ ?_
        show own_S p e below T165 m 200 #[iv p1, iv p2, iv (4 : Int32), rv b2, iv (2 : Int32), .val (.double (4602678819172646912 : UInt64)), .second, .unset, .unset] [(.double (4602678819172646912 : UInt64))] _
        refine XS.dstore X165.here hx rfl (hb hby at_200) rfl (l' := #[iv p1, iv p2, iv (4 : Int32), rv b2, iv (2 : Int32), .val (.double (4602678819172646912 : UInt64)), .second, .val (.double (4602678819172646912 : UInt64)), .second]) rfl ?_
        show own_S p e below T165 m 202 #[iv p1, iv p2, iv (4 : Int32), rv b2, iv (2 : Int32), .val (.double (4602678819172646912 : UInt64)), .second, .val (.double (4602678819172646912 : UInt64)), .second] [] _
        refine XS.dload X165.here hx rfl (hb hby at_202) rfl ?_
        show own_S p e below T165 m 204 #[iv p1, iv p2, iv (4 : Int32), rv b2, iv (2 : Int32), .val (.double (4602678819172646912 : UInt64)), .second, .val (.double (4602678819172646912 : UInt64)), .second] [(.double (4602678819172646912 : UInt64))] _
        refine XS.dload X165.here hx rfl (hb hby at_204) rfl ?_
        show own_S p e below T165 m 206 #[iv p1, iv p2, iv (4 : Int32), rv b2, iv (2 : Int32), .val (.double (4602678819172646912 : UInt64)), .second, .val (.double (4602678819172646912 : UInt64)), .second] [(.double (4602678819172646912 : UInt64)), (.double (4602678819172646912 : UInt64))] _
        refine XS.dcmpS X165.here hx rfl (hb hby at_206) rfl (v := (0 : Int32)) (by decide +kernel) ?_
        show own_S p e below T165 m 207 #[iv p1, iv p2, iv (4 : Int32), rv b2, iv (2 : Int32), .val (.double (4602678819172646912 : UInt64)), .second, .val (.double (4602678819172646912 : UInt64)), .second] [(.int (0 : Int32))] _
        refine XS.ifNo X165.here hx rfl (hb hby at_207) rfl ((if0 _ _).trans (teq (by decide : (0 : Int32) = (0 : Int32))).2) ?_
        show own_S p e below T165 m 210 #[iv p1, iv p2, iv (4 : Int32), rv b2, iv (2 : Int32), .val (.double (4602678819172646912 : UInt64)), .second, .val (.double (4602678819172646912 : UInt64)), .second] [] _
        refine XS.dconst0 X165.here hx rfl (hb hby at_210) (v := (0 : UInt64)) rfl ?_
        show own_S p e below T165 m 211 #[iv p1, iv p2, iv (4 : Int32), rv b2, iv (2 : Int32), .val (.double (4602678819172646912 : UInt64)), .second, .val (.double (4602678819172646912 : UInt64)), .second] [(.double (0 : UInt64))] _
        refine XS.dload X165.here hx rfl (hb hby at_211) rfl ?_
        show own_S p e below T165 m 213 #[iv p1, iv p2, iv (4 : Int32), rv b2, iv (2 : Int32), .val (.double (4602678819172646912 : UInt64)), .second, .val (.double (4602678819172646912 : UInt64)), .second] [(.double (4602678819172646912 : UInt64)), (.double (0 : UInt64))] _
        refine XS.dcmpS X165.here hx rfl (hb hby at_213) rfl (v := (-1 : Int32)) (by decide +kernel) ?_
        show own_S p e below T165 m 214 #[iv p1, iv p2, iv (4 : Int32), rv b2, iv (2 : Int32), .val (.double (4602678819172646912 : UInt64)), .second, .val (.double (4602678819172646912 : UInt64)), .second] [(.int (-1 : Int32))] _
        refine XS.ifNo X165.here hx rfl (hb hby at_214) rfl ((if0 _ _).trans (flt (by decide : ¬ ((0 : Int32) < (-1 : Int32)))).2.2.1) ?_
        show own_S p e below T165 m 217 #[iv p1, iv p2, iv (4 : Int32), rv b2, iv (2 : Int32), .val (.double (4602678819172646912 : UInt64)), .second, .val (.double (4602678819172646912 : UInt64)), .second] [] _
        refine XS.dload X165.here hx rfl (hb hby at_217) rfl ?_
        show own_S p e below T165 m 219 #[iv p1, iv p2, iv (4 : Int32), rv b2, iv (2 : Int32), .val (.double (4602678819172646912 : UInt64)), .second, .val (.double (4602678819172646912 : UInt64)), .second] [(.double (4602678819172646912 : UInt64))] _
        refine XS.dconst1 X165.here hx rfl (hb hby at_219) (v := (4607182418800017408 : UInt64)) rfl ?_
        show own_S p e below T165 m 220 #[iv p1, iv p2, iv (4 : Int32), rv b2, iv (2 : Int32), .val (.double (4602678819172646912 : UInt64)), .second, .val (.double (4602678819172646912 : UInt64)), .second] [(.double (4607182418800017408 : UInt64)), (.double (4602678819172646912 : UInt64))] _
        refine XS.dcmpS X165.here hx rfl (hb hby at_220) rfl (v := (-1 : Int32)) (by decide +kernel) ?_
        show own_S p e below T165 m 221 #[iv p1, iv p2, iv (4 : Int32), rv b2, iv (2 : Int32), .val (.double (4602678819172646912 : UInt64)), .second, .val (.double (4602678819172646912 : UInt64)), .second] [(.int (-1 : Int32))] _
        refine XS.ifNo X165.here hx rfl (hb hby at_221) rfl ((if0 _ _).trans (flt (by decide : ¬ ((0 : Int32) < (-1 : Int32)))).2.2.1) ?_
        show own_S p e below T165 m 224 #[iv p1, iv p2, iv (4 : Int32), rv b2, iv (2 : Int32), .val (.double (4602678819172646912 : UInt64)), .second, .val (.double (4602678819172646912 : UInt64)), .second] [] _
        refine XS.iconst X165.here hx rfl (hb hby at_224) ?_
        show own_S p e below T165 m 225 #[iv p1, iv p2, iv (4 : Int32), rv b2, iv (2 : Int32), .val (.double (4602678819172646912 : UInt64)), .second, .val (.double (4602678819172646912 : UInt64)), .second] [(.int (1 : Int32))] _
        refine XS.goto X165.here hx rfl (pc0 := 225) (pc' := 229) rfl (hb hby at_225) (by decide) (by decide) ?_
        exact k)
      obtain ⟨fs, hr, hrun, hended, hW, hsame⟩ := X165.leave (v := some (.int (nar .boolean (1 : Int32)))) (fun h => by rw [Bd.returns] at h; cases h)
      refine ⟨_, _, pre166 _ ?_, hrun, hended, _, _, rfl, ?_, ⟨_, rfl⟩, hW, hsame.mono (by decide) (by decide)⟩
      · show own_S p e below T165 m 229 #[iv p1, iv p2, iv (4 : Int32), rv b2, iv (2 : Int32), .val (.double (4602678819172646912 : UInt64)), .second, .val (.double (4602678819172646912 : UInt64)), .second] [(.int (1 : Int32))] _
        exact retN X165 hx (t := .boolean) Bd.returns (by simp) (hb hby at_229) hr
      · show Q0 Z p1 p2 h0 n0 _ T165.heap _
        rw [e165]
        exact ⟨rfl, N165⟩
    ·  -- case
      have Zs168 : n0 ≤ hj140.size := (Nat.le_trans (Nat.le_trans (Nat.le_trans (Nat.le_trans Zs4 Kj115.1) Kj122.1) Kj131.1) Kj140.1)
      obtain ⟨cq167, kq167, q167a, q167b, q167c⟩ := isOf hZ ej140 Fj140_0
      obtain ⟨_, _, ⟨T167, L167, k167, n167⟩, -, X167, ⟨Lc167, hQ167, l167, y167, z167⟩, st167⟩ := Xj140.virtualBack hx (y := (⟨"com/example/clockwright/clockwright/mcmc/Acceptance", "rate", "()D"⟩ : MethodName)) (z := (⟨"com/example/clockwright/clockwright/mcmc/Acceptance", "rate", "()D"⟩ : MethodName)) hown (mvT hZ (hw _ (List.mem_of_getElem? (i := 10) rfl))) (mvT hZ (hw _ (List.mem_of_getElem? (i := 11) rfl))) (notFace_of_selects (args := #[]) (mvT hZ (hw _ (List.mem_of_getElem? (i := 13) rfl)))) (mvT hZ (hw _ (List.mem_of_getElem? (i := 13) rfl))) (mvT hZ (hw _ (List.mem_of_getElem? (i := 12) rfl))) (by decide) (backOf (W := 0) (rmR1 l Z a0 hw [] b2 (4 : Int64) (3 : Int64) hj140 n0 Zs168 Fj140_1 Fj140_2 (by decide) (by unfold Jvm.Free.Fl.NoNaN64; decide +kernel)) hZ (hw _ (List.mem_of_getElem? (i := 14) rfl)) (hw _ (List.mem_of_getElem? (i := 3) rfl)) (by decide) (by decide)) q167a q167c (g := (mkF m 148 #[iv p1, iv p2, iv (4 : Int32), rv b2, iv (3 : Int32), iv fz_4, .unset, .unset, .unset] [(.ref b2)])) rfl (by rw [hml]; rfl) (Steps.refl _) (argsL := []) (rest := []) (lenOf pd_1 rfl) rfl (by show 2 * 0 + _ ≤ _; exact Nat.le_of_eq rfl) (hb hby at_148) (fun _ _ => ⟨rfl, ej140, (by decide : 1 + 0 ≤ _), (by decide : 2 + 0 ≤ _)⟩)
      dsimp only [Pt.U, Pt.locs, Pt.cells, Pt.slots] at X167 l167 y167 z167 st167 hQ167
      subst l167 y167 z167
      obtain ⟨hv167, N167q, e167q⟩ := hQ167
      have N167 := Fr.app Nj140 N167q
      rw [show FP.ddiv (FP.l2d (3 : Int64)) (FP.l2d (4 : Int64)) = (4604930618986332160 : UInt64) from by decide +kernel] at hv167
      subst hv167
      have e167 : T167.heap = hj140 := e167q
      obtain ⟨cq169, kq169, q169a, q169b, q169c⟩ := isOf hZ e167 Fj140_0
      obtain ⟨_, _, ⟨T169, L169, k169, n169⟩, -, X169, ⟨Lc169, hQ169, l169, y169, z169⟩, st169⟩ := X167.virtualBack hx (y := (⟨"com/example/clockwright/clockwright/mcmc/Acceptance", "proposals", "()J"⟩ : MethodName)) (z := (⟨"com/example/clockwright/clockwright/mcmc/Acceptance", "proposals", "()J"⟩ : MethodName)) hown (mvT hZ (hw _ (List.mem_of_getElem? (i := 18) rfl))) (mvT hZ (hw _ (List.mem_of_getElem? (i := 19) rfl))) (notFace_of_selects (args := #[]) (mvT hZ (hw _ (List.mem_of_getElem? (i := 21) rfl)))) (mvT hZ (hw _ (List.mem_of_getElem? (i := 21) rfl))) (mvT hZ (hw _ (List.mem_of_getElem? (i := 20) rfl))) (by decide) (backOf (W := 0) (rm4 l Z a0 hw [] b2 (4 : Int64) hj140 n0 Zs168 Fj140_1) hZ (hw _ (List.mem_of_getElem? (i := 22) rfl)) (hw _ (List.mem_of_getElem? (i := 3) rfl)) (by decide) (by decide)) q169a q169c (g := (mkF m 154 #[iv p1, iv p2, iv (4 : Int32), rv b2, iv (3 : Int32), .val (.double (4604930618986332160 : UInt64)), .second, .unset, .unset] [(.ref b2)])) rfl (by rw [hml]; rfl) (Steps.refl _) (argsL := []) (rest := []) (lenOf pd_2 rfl) rfl (by show 2 * 0 + _ ≤ _; exact Nat.le_of_eq rfl) (hb hby at_154) (fun _ _ => ⟨rfl, e167, (by decide : 1 + 0 ≤ _), (by decide : 2 + 0 ≤ _)⟩)
      dsimp only [Pt.U, Pt.locs, Pt.cells, Pt.slots] at X169 l169 y169 z169 st169 hQ169
      subst l169 y169 z169
      obtain ⟨rfl, N169q, e169q⟩ := hQ169
      have N169 := Fr.app N167 N169q
      have e169 : T169.heap = hj140 := e169q
      obtain ⟨cq170, kq170, q170a, q170b, q170c⟩ := isOf hZ e169 Fj140_0
      obtain ⟨_, _, ⟨T170, L170, k170, n170⟩, -, X170, ⟨Lc170, hQ170, l170, y170, z170⟩, st170⟩ := X169.virtualBack hx (y := (⟨"com/example/clockwright/clockwright/mcmc/Acceptance", "accepted", "()J"⟩ : MethodName)) (z := (⟨"com/example/clockwright/clockwright/mcmc/Acceptance", "accepted", "()J"⟩ : MethodName)) hown (mvT hZ (hw _ (List.mem_of_getElem? (i := 23) rfl))) (mvT hZ (hw _ (List.mem_of_getElem? (i := 24) rfl))) (notFace_of_selects (args := #[]) (mvT hZ (hw _ (List.mem_of_getElem? (i := 26) rfl)))) (mvT hZ (hw _ (List.mem_of_getElem? (i := 26) rfl))) (mvT hZ (hw _ (List.mem_of_getElem? (i := 25) rfl))) (by decide) (backOf (W := 0) (rm5 l Z a0 hw [] b2 (3 : Int64) hj140 n0 Zs168 Fj140_2) hZ (hw _ (List.mem_of_getElem? (i := 27) rfl)) (hw _ (List.mem_of_getElem? (i := 3) rfl)) (by decide) (by decide)) q170a q170c (g := (mkF m 164 #[iv p1, iv p2, iv (4 : Int32), rv b2, iv (3 : Int32), .val (.double (4604930618986332160 : UInt64)), .second, .unset, .unset] [(.ref b2)])) rfl (by rw [hml]; rfl) (Steps.refl _) (argsL := []) (rest := []) (lenOf pd_2 rfl) rfl (by show 2 * 0 + _ ≤ _; exact Nat.le_of_eq rfl) (hb hby at_164) (fun _ _ => ⟨rfl, e169, (by decide : 1 + 0 ≤ _), (by decide : 2 + 0 ≤ _)⟩)
      dsimp only [Pt.U, Pt.locs, Pt.cells, Pt.slots] at X170 l170 y170 z170 st170 hQ170
      subst l170 y170 z170
      obtain ⟨rfl, N170q, e170q⟩ := hQ170
      have N170 := Fr.app N169 N170q
      have e170 : T170.heap = hj140 := e170q
      obtain ⟨_, _, ⟨T171, L171, k171, n171⟩, -, X171, ⟨Lc171, hQ171, l171, y171, z171⟩, st171⟩ := Jvm.LawKit.callS X170 hx (y := (⟨"com/example/clockwright/clockwright/mcmc/AcceptanceRatePinLaw", "expected", "(II)D"⟩ : MethodName)) hown (mvT hZ (hw _ (List.mem_of_getElem? (i := 35) rfl))) (mvT hZ (hw _ (List.mem_of_getElem? (i := 36) rfl))) (mvT hZ (hw _ (List.mem_of_getElem? (i := 37) rfl))) (mvT hZ (hw _ (List.mem_of_getElem? (i := 38) rfl))) (by decide) (backOf (W := 0) (rm7 l Z a0 hw [] (4 : Int32) (3 : Int32) hj140 n0 Zs168 ) hZ (hw _ (List.mem_of_getElem? (i := 38) rfl)) (hw _ (List.mem_of_getElem? (i := 37) rfl)) (by decide) (by decide)) (g := (mkF m 197 #[iv p1, iv p2, iv (4 : Int32), rv b2, iv (3 : Int32), .val (.double (4604930618986332160 : UInt64)), .second, .unset, .unset] [(.int (3 : Int32)), (.int (4 : Int32))])) rfl (by rw [hml]; rfl) (argsL := [(.int (4 : Int32)), (.int (3 : Int32))]) (rest := []) (lenOf pd_4 rfl) rfl (by show 2 * 0 + _ ≤ _; exact Nat.le_of_eq rfl) (hb hby at_197) (fun _ _ => ⟨rfl, e170, (by decide : 1 + 0 ≤ _), (by decide : 2 + 0 ≤ _)⟩)
      dsimp only [Pt.U, Pt.locs, Pt.cells, Pt.slots] at X171 l171 y171 z171 st171 hQ171
      subst l171 y171 z171
      obtain ⟨hv171, N171q, e171q⟩ := hQ171
      have N171 := Fr.app N170 N171q
      rw [show own_exp (4 : Int32) (3 : Int32) = (4604930618986332160 : UInt64) from by decide] at hv171
      subst hv171
      have e171 : T171.heap = hj140 := e171q
      have pre172 : ∀ tg, own_S p e below T171 m 229 #[iv p1, iv p2, iv (4 : Int32), rv b2, iv (3 : Int32), .val (.double (4604930618986332160 : UInt64)), .second, .val (.double (4604930618986332160 : UInt64)), .second] [(.int (1 : Int32))] tg → Steps p.tables e below (s₁.setTop (entryFrame m #[(.int p1), (.int p2)] maxLocals)) tg := fun tg k => prej140 tg (by
        show own_S p e below Tj140 m 147 #[iv p1, iv p2, iv (4 : Int32), rv b2, iv (3 : Int32), iv fz_4, .unset, .unset, .unset] [] _
        refine XS.aloadN Xj140.here hx rfl (hb hby at_147) rfl rfl ?_
        show own_S p e below Tj140 m 148 #[iv p1, iv p2, iv (4 : Int32), rv b2, iv (3 : Int32), iv fz_4, .unset, .unset, .unset] [(.ref b2)] _
        refine st167.trans ?_
        show own_S p e below T167 m 151 #[iv p1, iv p2, iv (4 : Int32), rv b2, iv (3 : Int32), iv fz_4, .unset, .unset, .unset] [(.double (4604930618986332160 : UInt64))] _
        refine XS.dstore X167.here hx rfl (hb hby at_151) rfl (l' := #[iv p1, iv p2, iv (4 : Int32), rv b2, iv (3 : Int32), .val (.double (4604930618986332160 : UInt64)), .second, .unset, .unset]) rfl ?_
        show own_S p e below T167 m 153 #[iv p1, iv p2, iv (4 : Int32), rv b2, iv (3 : Int32), .val (.double (4604930618986332160 : UInt64)), .second, .unset, .unset] [] _
        refine XS.aloadN X167.here hx rfl (hb hby at_153) rfl rfl ?_
        show own_S p e below T167 m 154 #[iv p1, iv p2, iv (4 : Int32), rv b2, iv (3 : Int32), .val (.double (4604930618986332160 : UInt64)), .second, .unset, .unset] [(.ref b2)] _
        refine st169.trans ?_
        show own_S p e below T169 m 157 #[iv p1, iv p2, iv (4 : Int32), rv b2, iv (3 : Int32), .val (.double (4604930618986332160 : UInt64)), .second, .unset, .unset] [(.long (4 : Int64))] _
        refine XS.iloadN X169.here hx rfl (hb hby at_157) rfl ?_
        show own_S p e below T169 m 158 #[iv p1, iv p2, iv (4 : Int32), rv b2, iv (3 : Int32), .val (.double (4604930618986332160 : UInt64)), .second, .unset, .unset] [(.int (4 : Int32)), (.long (4 : Int64))] _
        refine XS.i2l X169.here hx rfl (hb hby at_158) rfl ?_
        show own_S p e below T169 m 159 #[iv p1, iv p2, iv (4 : Int32), rv b2, iv (3 : Int32), .val (.double (4604930618986332160 : UInt64)), .second, .unset, .unset] [(.long ((4 : Int32).toInt64)), (.long (4 : Int64))] _
        refine XS.lcmp X169.here hx rfl (hb hby at_159) rfl ?_
        show own_S p e below T169 m 160 #[iv p1, iv p2, iv (4 : Int32), rv b2, iv (3 : Int32), .val (.double (4604930618986332160 : UInt64)), .second, .unset, .unset] [(.int (lcmpW (4 : Int64) ((4 : Int32).toInt64)))] _
        refine XS.ifNo X169.here hx rfl (hb hby at_160) rfl ((if0 _ _).trans (teq ((lw_eq _ _).mpr (by decide : (4 : Int64) = ((4 : Int32).toInt64)))).2) ?_
        show own_S p e below T169 m 163 #[iv p1, iv p2, iv (4 : Int32), rv b2, iv (3 : Int32), .val (.double (4604930618986332160 : UInt64)), .second, .unset, .unset] [] _
        refine XS.aloadN X169.here hx rfl (hb hby at_163) rfl rfl ?_
        show own_S p e below T169 m 164 #[iv p1, iv p2, iv (4 : Int32), rv b2, iv (3 : Int32), .val (.double (4604930618986332160 : UInt64)), .second, .unset, .unset] [(.ref b2)] _
        refine st170.trans ?_
        show own_S p e below T170 m 167 #[iv p1, iv p2, iv (4 : Int32), rv b2, iv (3 : Int32), .val (.double (4604930618986332160 : UInt64)), .second, .unset, .unset] [(.long (3 : Int64))] _
        refine XS.iload X170.here hx rfl (hb hby at_167) rfl ?_
        show own_S p e below T170 m 169 #[iv p1, iv p2, iv (4 : Int32), rv b2, iv (3 : Int32), .val (.double (4604930618986332160 : UInt64)), .second, .unset, .unset] [(.int (3 : Int32)), (.long (3 : Int64))] _
        refine XS.i2l X170.here hx rfl (hb hby at_169) rfl ?_
        show own_S p e below T170 m 170 #[iv p1, iv p2, iv (4 : Int32), rv b2, iv (3 : Int32), .val (.double (4604930618986332160 : UInt64)), .second, .unset, .unset] [(.long ((3 : Int32).toInt64)), (.long (3 : Int64))] _
        refine XS.lcmp X170.here hx rfl (hb hby at_170) rfl ?_
        show own_S p e below T170 m 171 #[iv p1, iv p2, iv (4 : Int32), rv b2, iv (3 : Int32), .val (.double (4604930618986332160 : UInt64)), .second, .unset, .unset] [(.int (lcmpW (3 : Int64) ((3 : Int32).toInt64)))] _
        refine XS.ifYes X170.here hx rfl (pc0 := 171) (pc' := 176) rfl (hb hby at_171) rfl ((if0 _ _).trans (teq ((lw_eq _ _).mpr (by decide : (3 : Int64) = ((3 : Int32).toInt64)))).1) (by decide) (by decide) ?_
        show own_S p e below T170 m 176 #[iv p1, iv p2, iv (4 : Int32), rv b2, iv (3 : Int32), .val (.double (4604930618986332160 : UInt64)), .second, .unset, .unset] [] _
        refine XS.iloadN X170.here hx rfl (hb hby at_176) rfl ?_
        show own_S p e below T170 m 177 #[iv p1, iv p2, iv (4 : Int32), rv b2, iv (3 : Int32), .val (.double (4604930618986332160 : UInt64)), .second, .unset, .unset] [(.int (4 : Int32))] _
        refine XS.ifYes X170.here hx rfl (pc0 := 177) (pc' := 194) rfl (hb hby at_177) rfl ((if0 _ _).trans (feq (by decide : ¬ ((4 : Int32) = (0 : Int32)))).2) (by decide) (by decide) ?_
        show own_S p e below T170 m 194 #[iv p1, iv p2, iv (4 : Int32), rv b2, iv (3 : Int32), .val (.double (4604930618986332160 : UInt64)), .second, .unset, .unset] [] _
        refine XS.iloadN X170.here hx rfl (hb hby at_194) rfl ?_
        show own_S p e below T170 m 195 #[iv p1, iv p2, iv (4 : Int32), rv b2, iv (3 : Int32), .val (.double (4604930618986332160 : UInt64)), .second, .unset, .unset] [(.int (4 : Int32))] _
        refine XS.iload X170.here hx rfl (hb hby at_195) rfl ?_
        show own_S p e below T170 m 197 #[iv p1, iv p2, iv (4 : Int32), rv b2, iv (3 : Int32), .val (.double (4604930618986332160 : UInt64)), .second, .unset, .unset] [(.int (3 : Int32)), (.int (4 : Int32))] _
        refine st171 _ ?_
        show own_S p e below T171 m 200 #[iv p1, iv p2, iv (4 : Int32), rv b2, iv (3 : Int32), .val (.double (4604930618986332160 : UInt64)), .second, .unset, .unset] [(.double (4604930618986332160 : UInt64))] _
        refine XS.dstore X171.here hx rfl (hb hby at_200) rfl (l' := #[iv p1, iv p2, iv (4 : Int32), rv b2, iv (3 : Int32), .val (.double (4604930618986332160 : UInt64)), .second, .val (.double (4604930618986332160 : UInt64)), .second]) rfl ?_
        show own_S p e below T171 m 202 #[iv p1, iv p2, iv (4 : Int32), rv b2, iv (3 : Int32), .val (.double (4604930618986332160 : UInt64)), .second, .val (.double (4604930618986332160 : UInt64)), .second] [] _
        refine XS.dload X171.here hx rfl (hb hby at_202) rfl ?_
        show own_S p e below T171 m 204 #[iv p1, iv p2, iv (4 : Int32), rv b2, iv (3 : Int32), .val (.double (4604930618986332160 : UInt64)), .second, .val (.double (4604930618986332160 : UInt64)), .second] [(.double (4604930618986332160 : UInt64))] _
        refine XS.dload X171.here hx rfl (hb hby at_204) rfl ?_
        show own_S p e below T171 m 206 #[iv p1, iv p2, iv (4 : Int32), rv b2, iv (3 : Int32), .val (.double (4604930618986332160 : UInt64)), .second, .val (.double (4604930618986332160 : UInt64)), .second] [(.double (4604930618986332160 : UInt64)), (.double (4604930618986332160 : UInt64))] _
        refine XS.dcmpS X171.here hx rfl (hb hby at_206) rfl (v := (0 : Int32)) (by decide +kernel) ?_
        show own_S p e below T171 m 207 #[iv p1, iv p2, iv (4 : Int32), rv b2, iv (3 : Int32), .val (.double (4604930618986332160 : UInt64)), .second, .val (.double (4604930618986332160 : UInt64)), .second] [(.int (0 : Int32))] _
        refine XS.ifNo X171.here hx rfl (hb hby at_207) rfl ((if0 _ _).trans (teq (by decide : (0 : Int32) = (0 : Int32))).2) ?_
        show own_S p e below T171 m 210 #[iv p1, iv p2, iv (4 : Int32), rv b2, iv (3 : Int32), .val (.double (4604930618986332160 : UInt64)), .second, .val (.double (4604930618986332160 : UInt64)), .second] [] _
        refine XS.dconst0 X171.here hx rfl (hb hby at_210) (v := (0 : UInt64)) rfl ?_
        show own_S p e below T171 m 211 #[iv p1, iv p2, iv (4 : Int32), rv b2, iv (3 : Int32), .val (.double (4604930618986332160 : UInt64)), .second, .val (.double (4604930618986332160 : UInt64)), .second] [(.double (0 : UInt64))] _
        refine XS.dload X171.here hx rfl (hb hby at_211) rfl ?_
        show own_S p e below T171 m 213 #[iv p1, iv p2, iv (4 : Int32), rv b2, iv (3 : Int32), .val (.double (4604930618986332160 : UInt64)), .second, .val (.double (4604930618986332160 : UInt64)), .second] [(.double (4604930618986332160 : UInt64)), (.double (0 : UInt64))] _
        refine XS.dcmpS X171.here hx rfl (hb hby at_213) rfl (v := (-1 : Int32)) (by decide +kernel) ?_
        show own_S p e below T171 m 214 #[iv p1, iv p2, iv (4 : Int32), rv b2, iv (3 : Int32), .val (.double (4604930618986332160 : UInt64)), .second, .val (.double (4604930618986332160 : UInt64)), .second] [(.int (-1 : Int32))] _
        refine XS.ifNo X171.here hx rfl (hb hby at_214) rfl ((if0 _ _).trans (flt (by decide : ¬ ((0 : Int32) < (-1 : Int32)))).2.2.1) ?_
        show own_S p e below T171 m 217 #[iv p1, iv p2, iv (4 : Int32), rv b2, iv (3 : Int32), .val (.double (4604930618986332160 : UInt64)), .second, .val (.double (4604930618986332160 : UInt64)), .second] [] _
        refine XS.dload X171.here hx rfl (hb hby at_217) rfl ?_
        show own_S p e below T171 m 219 #[iv p1, iv p2, iv (4 : Int32), rv b2, iv (3 : Int32), .val (.double (4604930618986332160 : UInt64)), .second, .val (.double (4604930618986332160 : UInt64)), .second] [(.double (4604930618986332160 : UInt64))] _
        refine XS.dconst1 X171.here hx rfl (hb hby at_219) (v := (4607182418800017408 : UInt64)) rfl ?_
        show own_S p e below T171 m 220 #[iv p1, iv p2, iv (4 : Int32), rv b2, iv (3 : Int32), .val (.double (4604930618986332160 : UInt64)), .second, .val (.double (4604930618986332160 : UInt64)), .second] [(.double (4607182418800017408 : UInt64)), (.double (4604930618986332160 : UInt64))] _
        refine XS.dcmpS X171.here hx rfl (hb hby at_220) rfl (v := (-1 : Int32)) (by decide +kernel) ?_
        show own_S p e below T171 m 221 #[iv p1, iv p2, iv (4 : Int32), rv b2, iv (3 : Int32), .val (.double (4604930618986332160 : UInt64)), .second, .val (.double (4604930618986332160 : UInt64)), .second] [(.int (-1 : Int32))] _
        refine XS.ifNo X171.here hx rfl (hb hby at_221) rfl ((if0 _ _).trans (flt (by decide : ¬ ((0 : Int32) < (-1 : Int32)))).2.2.1) ?_
        show own_S p e below T171 m 224 #[iv p1, iv p2, iv (4 : Int32), rv b2, iv (3 : Int32), .val (.double (4604930618986332160 : UInt64)), .second, .val (.double (4604930618986332160 : UInt64)), .second] [] _
        refine XS.iconst X171.here hx rfl (hb hby at_224) ?_
        show own_S p e below T171 m 225 #[iv p1, iv p2, iv (4 : Int32), rv b2, iv (3 : Int32), .val (.double (4604930618986332160 : UInt64)), .second, .val (.double (4604930618986332160 : UInt64)), .second] [(.int (1 : Int32))] _
        refine XS.goto X171.here hx rfl (pc0 := 225) (pc' := 229) rfl (hb hby at_225) (by decide) (by decide) ?_
        exact k)
      obtain ⟨fs, hr, hrun, hended, hW, hsame⟩ := X171.leave (v := some (.int (nar .boolean (1 : Int32)))) (fun h => by rw [Bd.returns] at h; cases h)
      refine ⟨_, _, pre172 _ ?_, hrun, hended, _, _, rfl, ?_, ⟨_, rfl⟩, hW, hsame.mono (by decide) (by decide)⟩
      · show own_S p e below T171 m 229 #[iv p1, iv p2, iv (4 : Int32), rv b2, iv (3 : Int32), .val (.double (4604930618986332160 : UInt64)), .second, .val (.double (4604930618986332160 : UInt64)), .second] [(.int (1 : Int32))] _
        exact retN X171 hx (t := .boolean) Bd.returns (by simp) (hb hby at_229) hr
      · show Q0 Z p1 p2 h0 n0 _ T171.heap _
        rw [e171]
        exact ⟨rfl, N171⟩
    ·  -- case
      have Zs174 : n0 ≤ hj140.size := (Nat.le_trans (Nat.le_trans (Nat.le_trans (Nat.le_trans Zs4 Kj115.1) Kj122.1) Kj131.1) Kj140.1)
      obtain ⟨cq173, kq173, q173a, q173b, q173c⟩ := isOf hZ ej140 Fj140_0
      obtain ⟨_, _, ⟨T173, L173, k173, n173⟩, -, X173, ⟨Lc173, hQ173, l173, y173, z173⟩, st173⟩ := Xj140.virtualBack hx (y := (⟨"com/example/clockwright/clockwright/mcmc/Acceptance", "rate", "()D"⟩ : MethodName)) (z := (⟨"com/example/clockwright/clockwright/mcmc/Acceptance", "rate", "()D"⟩ : MethodName)) hown (mvT hZ (hw _ (List.mem_of_getElem? (i := 10) rfl))) (mvT hZ (hw _ (List.mem_of_getElem? (i := 11) rfl))) (notFace_of_selects (args := #[]) (mvT hZ (hw _ (List.mem_of_getElem? (i := 13) rfl)))) (mvT hZ (hw _ (List.mem_of_getElem? (i := 13) rfl))) (mvT hZ (hw _ (List.mem_of_getElem? (i := 12) rfl))) (by decide) (backOf (W := 0) (rmR1 l Z a0 hw [] b2 (4 : Int64) (4 : Int64) hj140 n0 Zs174 Fj140_1 Fj140_2 (by decide) (by unfold Jvm.Free.Fl.NoNaN64; decide +kernel)) hZ (hw _ (List.mem_of_getElem? (i := 14) rfl)) (hw _ (List.mem_of_getElem? (i := 3) rfl)) (by decide) (by decide)) q173a q173c (g := (mkF m 148 #[iv p1, iv p2, iv (4 : Int32), rv b2, iv (4 : Int32), iv fz_4, .unset, .unset, .unset] [(.ref b2)])) rfl (by rw [hml]; rfl) (Steps.refl _) (argsL := []) (rest := []) (lenOf pd_1 rfl) rfl (by show 2 * 0 + _ ≤ _; exact Nat.le_of_eq rfl) (hb hby at_148) (fun _ _ => ⟨rfl, ej140, (by decide : 1 + 0 ≤ _), (by decide : 2 + 0 ≤ _)⟩)
      dsimp only [Pt.U, Pt.locs, Pt.cells, Pt.slots] at X173 l173 y173 z173 st173 hQ173
      subst l173 y173 z173
      obtain ⟨hv173, N173q, e173q⟩ := hQ173
      have N173 := Fr.app Nj140 N173q
      rw [show FP.ddiv (FP.l2d (4 : Int64)) (FP.l2d (4 : Int64)) = (4607182418800017408 : UInt64) from by decide +kernel] at hv173
      subst hv173
      have e173 : T173.heap = hj140 := e173q
      obtain ⟨cq175, kq175, q175a, q175b, q175c⟩ := isOf hZ e173 Fj140_0
      obtain ⟨_, _, ⟨T175, L175, k175, n175⟩, -, X175, ⟨Lc175, hQ175, l175, y175, z175⟩, st175⟩ := X173.virtualBack hx (y := (⟨"com/example/clockwright/clockwright/mcmc/Acceptance", "proposals", "()J"⟩ : MethodName)) (z := (⟨"com/example/clockwright/clockwright/mcmc/Acceptance", "proposals", "()J"⟩ : MethodName)) hown (mvT hZ (hw _ (List.mem_of_getElem? (i := 18) rfl))) (mvT hZ (hw _ (List.mem_of_getElem? (i := 19) rfl))) (notFace_of_selects (args := #[]) (mvT hZ (hw _ (List.mem_of_getElem? (i := 21) rfl)))) (mvT hZ (hw _ (List.mem_of_getElem? (i := 21) rfl))) (mvT hZ (hw _ (List.mem_of_getElem? (i := 20) rfl))) (by decide) (backOf (W := 0) (rm4 l Z a0 hw [] b2 (4 : Int64) hj140 n0 Zs174 Fj140_1) hZ (hw _ (List.mem_of_getElem? (i := 22) rfl)) (hw _ (List.mem_of_getElem? (i := 3) rfl)) (by decide) (by decide)) q175a q175c (g := (mkF m 154 #[iv p1, iv p2, iv (4 : Int32), rv b2, iv (4 : Int32), .val (.double (4607182418800017408 : UInt64)), .second, .unset, .unset] [(.ref b2)])) rfl (by rw [hml]; rfl) (Steps.refl _) (argsL := []) (rest := []) (lenOf pd_2 rfl) rfl (by show 2 * 0 + _ ≤ _; exact Nat.le_of_eq rfl) (hb hby at_154) (fun _ _ => ⟨rfl, e173, (by decide : 1 + 0 ≤ _), (by decide : 2 + 0 ≤ _)⟩)
      dsimp only [Pt.U, Pt.locs, Pt.cells, Pt.slots] at X175 l175 y175 z175 st175 hQ175
      subst l175 y175 z175
      obtain ⟨rfl, N175q, e175q⟩ := hQ175
      have N175 := Fr.app N173 N175q
      have e175 : T175.heap = hj140 := e175q
      obtain ⟨cq176, kq176, q176a, q176b, q176c⟩ := isOf hZ e175 Fj140_0
      obtain ⟨_, _, ⟨T176, L176, k176, n176⟩, -, X176, ⟨Lc176, hQ176, l176, y176, z176⟩, st176⟩ := X175.virtualBack hx (y := (⟨"com/example/clockwright/clockwright/mcmc/Acceptance", "accepted", "()J"⟩ : MethodName)) (z := (⟨"com/example/clockwright/clockwright/mcmc/Acceptance", "accepted", "()J"⟩ : MethodName)) hown (mvT hZ (hw _ (List.mem_of_getElem? (i := 23) rfl))) (mvT hZ (hw _ (List.mem_of_getElem? (i := 24) rfl))) (notFace_of_selects (args := #[]) (mvT hZ (hw _ (List.mem_of_getElem? (i := 26) rfl)))) (mvT hZ (hw _ (List.mem_of_getElem? (i := 26) rfl))) (mvT hZ (hw _ (List.mem_of_getElem? (i := 25) rfl))) (by decide) (backOf (W := 0) (rm5 l Z a0 hw [] b2 (4 : Int64) hj140 n0 Zs174 Fj140_2) hZ (hw _ (List.mem_of_getElem? (i := 27) rfl)) (hw _ (List.mem_of_getElem? (i := 3) rfl)) (by decide) (by decide)) q176a q176c (g := (mkF m 164 #[iv p1, iv p2, iv (4 : Int32), rv b2, iv (4 : Int32), .val (.double (4607182418800017408 : UInt64)), .second, .unset, .unset] [(.ref b2)])) rfl (by rw [hml]; rfl) (Steps.refl _) (argsL := []) (rest := []) (lenOf pd_2 rfl) rfl (by show 2 * 0 + _ ≤ _; exact Nat.le_of_eq rfl) (hb hby at_164) (fun _ _ => ⟨rfl, e175, (by decide : 1 + 0 ≤ _), (by decide : 2 + 0 ≤ _)⟩)
      dsimp only [Pt.U, Pt.locs, Pt.cells, Pt.slots] at X176 l176 y176 z176 st176 hQ176
      subst l176 y176 z176
      obtain ⟨rfl, N176q, e176q⟩ := hQ176
      have N176 := Fr.app N175 N176q
      have e176 : T176.heap = hj140 := e176q
      obtain ⟨_, _, ⟨T177, L177, k177, n177⟩, -, X177, ⟨Lc177, hQ177, l177, y177, z177⟩, st177⟩ := Jvm.LawKit.callS X176 hx (y := (⟨"com/example/clockwright/clockwright/mcmc/AcceptanceRatePinLaw", "expected", "(II)D"⟩ : MethodName)) hown (mvT hZ (hw _ (List.mem_of_getElem? (i := 35) rfl))) (mvT hZ (hw _ (List.mem_of_getElem? (i := 36) rfl))) (mvT hZ (hw _ (List.mem_of_getElem? (i := 37) rfl))) (mvT hZ (hw _ (List.mem_of_getElem? (i := 38) rfl))) (by decide) (backOf (W := 0) (rm7 l Z a0 hw [] (4 : Int32) (4 : Int32) hj140 n0 Zs174 ) hZ (hw _ (List.mem_of_getElem? (i := 38) rfl)) (hw _ (List.mem_of_getElem? (i := 37) rfl)) (by decide) (by decide)) (g := (mkF m 197 #[iv p1, iv p2, iv (4 : Int32), rv b2, iv (4 : Int32), .val (.double (4607182418800017408 : UInt64)), .second, .unset, .unset] [(.int (4 : Int32)), (.int (4 : Int32))])) rfl (by rw [hml]; rfl) (argsL := [(.int (4 : Int32)), (.int (4 : Int32))]) (rest := []) (lenOf pd_4 rfl) rfl (by show 2 * 0 + _ ≤ _; exact Nat.le_of_eq rfl) (hb hby at_197) (fun _ _ => ⟨rfl, e176, (by decide : 1 + 0 ≤ _), (by decide : 2 + 0 ≤ _)⟩)
      dsimp only [Pt.U, Pt.locs, Pt.cells, Pt.slots] at X177 l177 y177 z177 st177 hQ177
      subst l177 y177 z177
      obtain ⟨hv177, N177q, e177q⟩ := hQ177
      have N177 := Fr.app N176 N177q
      rw [show own_exp (4 : Int32) (4 : Int32) = (4607182418800017408 : UInt64) from by decide] at hv177
      subst hv177
      have e177 : T177.heap = hj140 := e177q
      have pre178 : ∀ tg, own_S p e below T177 m 229 #[iv p1, iv p2, iv (4 : Int32), rv b2, iv (4 : Int32), .val (.double (4607182418800017408 : UInt64)), .second, .val (.double (4607182418800017408 : UInt64)), .second] [(.int (1 : Int32))] tg → Steps p.tables e below (s₁.setTop (entryFrame m #[(.int p1), (.int p2)] maxLocals)) tg := fun tg k => prej140 tg (by
        show own_S p e below Tj140 m 147 #[iv p1, iv p2, iv (4 : Int32), rv b2, iv (4 : Int32), iv fz_4, .unset, .unset, .unset] [] _
        refine XS.aloadN Xj140.here hx rfl (hb hby at_147) rfl rfl ?_
        show own_S p e below Tj140 m 148 #[iv p1, iv p2, iv (4 : Int32), rv b2, iv (4 : Int32), iv fz_4, .unset, .unset, .unset] [(.ref b2)] _
        refine st173.trans ?_
        show own_S p e below T173 m 151 #[iv p1, iv p2, iv (4 : Int32), rv b2, iv (4 : Int32), iv fz_4, .unset, .unset, .unset] [(.double (4607182418800017408 : UInt64))] _
        refine XS.dstore X173.here hx rfl (hb hby at_151) rfl (l' := #[iv p1, iv p2, iv (4 : Int32), rv b2, iv (4 : Int32), .val (.double (4607182418800017408 : UInt64)), .second, .unset, .unset]) rfl ?_
        show own_S p e below T173 m 153 #[iv p1, iv p2, iv (4 : Int32), rv b2, iv (4 : Int32), .val (.double (4607182418800017408 : UInt64)), .second, .unset, .unset] [] _
        refine XS.aloadN X173.here hx rfl (hb hby at_153) rfl rfl ?_
        show own_S p e below T173 m 154 #[iv p1, iv p2, iv (4 : Int32), rv b2, iv (4 : Int32), .val (.double (4607182418800017408 : UInt64)), .second, .unset, .unset] [(.ref b2)] _
        refine st175.trans ?_
        show own_S p e below T175 m 157 #[iv p1, iv p2, iv (4 : Int32), rv b2, iv (4 : Int32), .val (.double (4607182418800017408 : UInt64)), .second, .unset, .unset] [(.long (4 : Int64))] _
        refine XS.iloadN X175.here hx rfl (hb hby at_157) rfl ?_
        show own_S p e below T175 m 158 #[iv p1, iv p2, iv (4 : Int32), rv b2, iv (4 : Int32), .val (.double (4607182418800017408 : UInt64)), .second, .unset, .unset] [(.int (4 : Int32)), (.long (4 : Int64))] _
        refine XS.i2l X175.here hx rfl (hb hby at_158) rfl ?_
        show own_S p e below T175 m 159 #[iv p1, iv p2, iv (4 : Int32), rv b2, iv (4 : Int32), .val (.double (4607182418800017408 : UInt64)), .second, .unset, .unset] [(.long ((4 : Int32).toInt64)), (.long (4 : Int64))] _
        refine XS.lcmp X175.here hx rfl (hb hby at_159) rfl ?_
        show own_S p e below T175 m 160 #[iv p1, iv p2, iv (4 : Int32), rv b2, iv (4 : Int32), .val (.double (4607182418800017408 : UInt64)), .second, .unset, .unset] [(.int (lcmpW (4 : Int64) ((4 : Int32).toInt64)))] _
        refine XS.ifNo X175.here hx rfl (hb hby at_160) rfl ((if0 _ _).trans (teq ((lw_eq _ _).mpr (by decide : (4 : Int64) = ((4 : Int32).toInt64)))).2) ?_
        show own_S p e below T175 m 163 #[iv p1, iv p2, iv (4 : Int32), rv b2, iv (4 : Int32), .val (.double (4607182418800017408 : UInt64)), .second, .unset, .unset] [] _
        refine XS.aloadN X175.here hx rfl (hb hby at_163) rfl rfl ?_
        show own_S p e below T175 m 164 #[iv p1, iv p2, iv (4 : Int32), rv b2, iv (4 : Int32), .val (.double (4607182418800017408 : UInt64)), .second, .unset, .unset] [(.ref b2)] _
        refine st176.trans ?_
        show own_S p e below T176 m 167 #[iv p1, iv p2, iv (4 : Int32), rv b2, iv (4 : Int32), .val (.double (4607182418800017408 : UInt64)), .second, .unset, .unset] [(.long (4 : Int64))] _
        refine XS.iload X176.here hx rfl (hb hby at_167) rfl ?_
        show own_S p e below T176 m 169 #[iv p1, iv p2, iv (4 : Int32), rv b2, iv (4 : Int32), .val (.double (4607182418800017408 : UInt64)), .second, .unset, .unset] [(.int (4 : Int32)), (.long (4 : Int64))] _
        refine XS.i2l X176.here hx rfl (hb hby at_169) rfl ?_
        show own_S p e below T176 m 170 #[iv p1, iv p2, iv (4 : Int32), rv b2, iv (4 : Int32), .val (.double (4607182418800017408 : UInt64)), .second, .unset, .unset] [(.long ((4 : Int32).toInt64)), (.long (4 : Int64))] _
        refine XS.lcmp X176.here hx rfl (hb hby at_170) rfl ?_
        show own_S p e below T176 m 171 #[iv p1, iv p2, iv (4 : Int32), rv b2, iv (4 : Int32), .val (.double (4607182418800017408 : UInt64)), .second, .unset, .unset] [(.int (lcmpW (4 : Int64) ((4 : Int32).toInt64)))] _
        refine XS.ifYes X176.here hx rfl (pc0 := 171) (pc' := 176) rfl (hb hby at_171) rfl ((if0 _ _).trans (teq ((lw_eq _ _).mpr (by decide : (4 : Int64) = ((4 : Int32).toInt64)))).1) (by decide) (by decide) ?_
        show own_S p e below T176 m 176 #[iv p1, iv p2, iv (4 : Int32), rv b2, iv (4 : Int32), .val (.double (4607182418800017408 : UInt64)), .second, .unset, .unset] [] _
        refine XS.iloadN X176.here hx rfl (hb hby at_176) rfl ?_
        show own_S p e below T176 m 177 #[iv p1, iv p2, iv (4 : Int32), rv b2, iv (4 : Int32), .val (.double (4607182418800017408 : UInt64)), .second, .unset, .unset] [(.int (4 : Int32))] _
        refine XS.ifYes X176.here hx rfl (pc0 := 177) (pc' := 194) rfl (hb hby at_177) rfl ((if0 _ _).trans (feq (by decide : ¬ ((4 : Int32) = (0 : Int32)))).2) (by decide) (by decide) ?_
        show own_S p e below T176 m 194 #[iv p1, iv p2, iv (4 : Int32), rv b2, iv (4 : Int32), .val (.double (4607182418800017408 : UInt64)), .second, .unset, .unset] [] _
        refine XS.iloadN X176.here hx rfl (hb hby at_194) rfl ?_
        show own_S p e below T176 m 195 #[iv p1, iv p2, iv (4 : Int32), rv b2, iv (4 : Int32), .val (.double (4607182418800017408 : UInt64)), .second, .unset, .unset] [(.int (4 : Int32))] _
        refine XS.iload X176.here hx rfl (hb hby at_195) rfl ?_
        show own_S p e below T176 m 197 #[iv p1, iv p2, iv (4 : Int32), rv b2, iv (4 : Int32), .val (.double (4607182418800017408 : UInt64)), .second, .unset, .unset] [(.int (4 : Int32)), (.int (4 : Int32))] _
        refine st177 _ ?_
        show own_S p e below T177 m 200 #[iv p1, iv p2, iv (4 : Int32), rv b2, iv (4 : Int32), .val (.double (4607182418800017408 : UInt64)), .second, .unset, .unset] [(.double (4607182418800017408 : UInt64))] _
        refine XS.dstore X177.here hx rfl (hb hby at_200) rfl (l' := #[iv p1, iv p2, iv (4 : Int32), rv b2, iv (4 : Int32), .val (.double (4607182418800017408 : UInt64)), .second, .val (.double (4607182418800017408 : UInt64)), .second]) rfl ?_
        show own_S p e below T177 m 202 #[iv p1, iv p2, iv (4 : Int32), rv b2, iv (4 : Int32), .val (.double (4607182418800017408 : UInt64)), .second, .val (.double (4607182418800017408 : UInt64)), .second] [] _
        refine XS.dload X177.here hx rfl (hb hby at_202) rfl ?_
        show own_S p e below T177 m 204 #[iv p1, iv p2, iv (4 : Int32), rv b2, iv (4 : Int32), .val (.double (4607182418800017408 : UInt64)), .second, .val (.double (4607182418800017408 : UInt64)), .second] [(.double (4607182418800017408 : UInt64))] _
        refine XS.dload X177.here hx rfl (hb hby at_204) rfl ?_
        show own_S p e below T177 m 206 #[iv p1, iv p2, iv (4 : Int32), rv b2, iv (4 : Int32), .val (.double (4607182418800017408 : UInt64)), .second, .val (.double (4607182418800017408 : UInt64)), .second] [(.double (4607182418800017408 : UInt64)), (.double (4607182418800017408 : UInt64))] _
        refine XS.dcmpS X177.here hx rfl (hb hby at_206) rfl (v := (0 : Int32)) (by decide +kernel) ?_
        show own_S p e below T177 m 207 #[iv p1, iv p2, iv (4 : Int32), rv b2, iv (4 : Int32), .val (.double (4607182418800017408 : UInt64)), .second, .val (.double (4607182418800017408 : UInt64)), .second] [(.int (0 : Int32))] _
        refine XS.ifNo X177.here hx rfl (hb hby at_207) rfl ((if0 _ _).trans (teq (by decide : (0 : Int32) = (0 : Int32))).2) ?_
        show own_S p e below T177 m 210 #[iv p1, iv p2, iv (4 : Int32), rv b2, iv (4 : Int32), .val (.double (4607182418800017408 : UInt64)), .second, .val (.double (4607182418800017408 : UInt64)), .second] [] _
        refine XS.dconst0 X177.here hx rfl (hb hby at_210) (v := (0 : UInt64)) rfl ?_
        show own_S p e below T177 m 211 #[iv p1, iv p2, iv (4 : Int32), rv b2, iv (4 : Int32), .val (.double (4607182418800017408 : UInt64)), .second, .val (.double (4607182418800017408 : UInt64)), .second] [(.double (0 : UInt64))] _
        refine XS.dload X177.here hx rfl (hb hby at_211) rfl ?_
        show own_S p e below T177 m 213 #[iv p1, iv p2, iv (4 : Int32), rv b2, iv (4 : Int32), .val (.double (4607182418800017408 : UInt64)), .second, .val (.double (4607182418800017408 : UInt64)), .second] [(.double (4607182418800017408 : UInt64)), (.double (0 : UInt64))] _
        refine XS.dcmpS X177.here hx rfl (hb hby at_213) rfl (v := (-1 : Int32)) (by decide +kernel) ?_
        show own_S p e below T177 m 214 #[iv p1, iv p2, iv (4 : Int32), rv b2, iv (4 : Int32), .val (.double (4607182418800017408 : UInt64)), .second, .val (.double (4607182418800017408 : UInt64)), .second] [(.int (-1 : Int32))] _
        refine XS.ifNo X177.here hx rfl (hb hby at_214) rfl ((if0 _ _).trans (flt (by decide : ¬ ((0 : Int32) < (-1 : Int32)))).2.2.1) ?_
        show own_S p e below T177 m 217 #[iv p1, iv p2, iv (4 : Int32), rv b2, iv (4 : Int32), .val (.double (4607182418800017408 : UInt64)), .second, .val (.double (4607182418800017408 : UInt64)), .second] [] _
        refine XS.dload X177.here hx rfl (hb hby at_217) rfl ?_
        show own_S p e below T177 m 219 #[iv p1, iv p2, iv (4 : Int32), rv b2, iv (4 : Int32), .val (.double (4607182418800017408 : UInt64)), .second, .val (.double (4607182418800017408 : UInt64)), .second] [(.double (4607182418800017408 : UInt64))] _
        refine XS.dconst1 X177.here hx rfl (hb hby at_219) (v := (4607182418800017408 : UInt64)) rfl ?_
        show own_S p e below T177 m 220 #[iv p1, iv p2, iv (4 : Int32), rv b2, iv (4 : Int32), .val (.double (4607182418800017408 : UInt64)), .second, .val (.double (4607182418800017408 : UInt64)), .second] [(.double (4607182418800017408 : UInt64)), (.double (4607182418800017408 : UInt64))] _
        refine XS.dcmpS X177.here hx rfl (hb hby at_220) rfl (v := (0 : Int32)) (by decide +kernel) ?_
        show own_S p e below T177 m 221 #[iv p1, iv p2, iv (4 : Int32), rv b2, iv (4 : Int32), .val (.double (4607182418800017408 : UInt64)), .second, .val (.double (4607182418800017408 : UInt64)), .second] [(.int (0 : Int32))] _
        refine XS.ifNo X177.here hx rfl (hb hby at_221) rfl ((if0 _ _).trans (flt (by decide : ¬ ((0 : Int32) < (0 : Int32)))).2.2.1) ?_
        show own_S p e below T177 m 224 #[iv p1, iv p2, iv (4 : Int32), rv b2, iv (4 : Int32), .val (.double (4607182418800017408 : UInt64)), .second, .val (.double (4607182418800017408 : UInt64)), .second] [] _
        refine XS.iconst X177.here hx rfl (hb hby at_224) ?_
        show own_S p e below T177 m 225 #[iv p1, iv p2, iv (4 : Int32), rv b2, iv (4 : Int32), .val (.double (4607182418800017408 : UInt64)), .second, .val (.double (4607182418800017408 : UInt64)), .second] [(.int (1 : Int32))] _
        refine XS.goto X177.here hx rfl (pc0 := 225) (pc' := 229) rfl (hb hby at_225) (by decide) (by decide) ?_
        exact k)
      obtain ⟨fs, hr, hrun, hended, hW, hsame⟩ := X177.leave (v := some (.int (nar .boolean (1 : Int32)))) (fun h => by rw [Bd.returns] at h; cases h)
      refine ⟨_, _, pre178 _ ?_, hrun, hended, _, _, rfl, ?_, ⟨_, rfl⟩, hW, hsame.mono (by decide) (by decide)⟩
      · show own_S p e below T177 m 229 #[iv p1, iv p2, iv (4 : Int32), rv b2, iv (4 : Int32), .val (.double (4607182418800017408 : UInt64)), .second, .val (.double (4607182418800017408 : UInt64)), .second] [(.int (1 : Int32))] _
        exact retN X177 hx (t := .boolean) Bd.returns (by simp) (hb hby at_229) hr
      · show Q0 Z p1 p2 h0 n0 _ T177.heap _
        rw [e177]
        exact ⟨rfl, N177⟩
set_option maxRecDepth 65536 in
set_option maxHeartbeats 40000000 in
theorem comes_1 {Post : Tables → Env → Array Value → State → Outcome → State → Prop} (hpost : ∀ tb e args s v u, (limb_1_1.after args s (.returned v) u = true ∧ limb_1_2.after args s (.returned v) u = true ∧ True) → FrameEnd s (.returned v) u (Jvm.fieldLocs frame_1_writes args s ++ Jvm.arrayLocs frame_1_arrays args s ++ Jvm.staticLocs frame_1_statics s) 16 128 → Post tb e args s (.returned v) u) :
    ArmFor flags0 classFile x code maxLocals ret World_1 tables_1 room_1 Calls_1 rest_1 Pre_1 Post := by
  intro l hfl _ _ p e ha hc hk s m args below hf hA hF happ hP
  obtain ⟨hcalls, hrest, hpre⟩ := hP
  obtain ⟨-, -, -, hnamed, -, -, -, hat⟩ := (Spec.applies_iff hf).mp happ
  obtain ⟨hg, hn⟩ := and_e (Cond.before_iff.mp (show (Jvm.Cond.and given_1 narrow_1).before args s = true from hpre))
  obtain ⟨g1, g2⟩ := and_e hg
  obtain ⟨g3, g4⟩ := and_e g2
  obtain ⟨w0, w1, rfl⟩ : ∃ w0 w1 : Value, args = #[w0, w1] := by
    have hs : args.size = 2 := by simpa [Cond.value, given_1] using g1
    obtain ⟨L⟩ := args
    match L, hs with
    | [w0, w1], _ => exact ⟨w0, w1, rfl⟩
  have hw := fun d (hd : d ∈ tables_1) => atoms_spec (ws := Jvm.Cond.code x code maxLocals ret :: tables_1) hat d (List.mem_cons_of_mem _ hd)
  have hfit : Fit s := fun {y c} hc i hi => by
    obtain ⟨ha, rfl⟩ := Array.getElem?_eq_some_iff.mp hc
    have q := List.all_eq_true.mp ((Array.all_eq_true_iff_forall_mem.mp hF) _ (Array.getElem_mem ha)) i (List.mem_range.mpr hi)
    simpa [Array.getElem?_eq_getElem hi] using q
  obtain ⟨i0, ei0⟩ := is_v g3
  obtain rfl : w0 = (.int i0) := Option.some.inj ei0
  obtain ⟨i1, ei1⟩ := is_v g4
  obtain rfl : w1 = (.int i1) := Option.some.inj ei1
  obtain ⟨n, o, h1, h2, h3, _, L, rfl, ⟨rfl, N⟩, hq⟩ := rm0 l s _ hw tables_1 i0 i1 s.heap s.heap.size (Nat.le_refl _)  p e ha hc hk s m _ below hf ((Spec.applies_iff_loose hf).mp happ).1 ⟨rfl, State.Warmed39.refl s, rfl⟩ trivial
  refine ⟨n, _, h1, h2, h3, hpost _ _ _ _ _ _ ⟨Cond.after_iff.mpr rfl, Cond.after_iff.mpr (eq_i res_at (Term.int_eval (1)) rfl), trivial⟩ ⟨hq.1, hq.2.1, (hq.2.2.sift fun y hy => Or.inr (N y hy)).mono (by decide) (by decide)⟩⟩
theorem main_1_1 : Claimed_1_1 := comes_1 fun _ _ _ _ _ _ h hF => ⟨h.1, hF⟩
theorem main_1_2 : Claimed_1_2 := comes_1 fun _ _ _ _ _ _ h hF => ⟨h.2.1, hF⟩
end Jvm.Pilot.@@N@@
namespace Jvm.Pilot.@@N@@
open Jvm Jvm.ClassFile Sem Op Lib Jvm.Free Jvm.Stand Jvm.Pilot.@@N@@.Jvm.D
/-! MADE BY PROGRAM (witnessworld.py) out of the Statement's table words and the real class files: 9 classes; the members and pool entries that the words name. The judged class is class 1, her method 1. -/
namespace start1
open Jvm.ClassFile
def u (s : String) : CpInfo := .utf8 (stringToUtf16 s)
/-- a pool by its gaps: so many unusable entries, then the entry; so many at the end -/
def gap : Nat → List CpInfo → List CpInfo
  | 0, r => r
  | n + 1, r => .unusable :: gap n r
def poolList (es : List (Nat × CpInfo)) (last : Nat) : List CpInfo := es.foldr (fun e r => gap e.1 (e.2 :: r)) (gap last [])
def pool (es : List (Nat × CpInfo)) (last : Nat) : Array CpInfo := ⟨poolList es last⟩
def fileOf (pool : Array CpInfo) (this : Nat) (attrs : Array Attribute := #[]) (ms : Array MethodInfo := #[]) (fl : Nat := 33) (sup : Nat := 0) (ifs : Array Nat := #[]) (fds : Array FieldInfo := #[]) : ClassFile where
  minorVersion := 0
  majorVersion := 65
  constantPool := pool
  accessFlags := fl
  thisClass := this
  superClass := sup
  interfaces := ifs
  fields := fds
  methods := ms
  attributes := attrs
def plain (name : String) (sup : Option ClassId) : Class where
  name := name
  kind := .ordinary
  loader := none
  accessFlags := 33
  super := sup
  interfaces := #[]
  cf := none
  fields := #[]
  methods := #[]
  instanceTypes := #[]
  staticTypes := #[]
  resolved := #[]
  callSites := []
  init := .initialized
  statics := none
  mirror := none

def pool0 : Array CpInfo := pool [(5, u "<init>"), (0, u "()V"), (1, .class_ 10), (1, u "java/lang/Object")] 113

def k0c0 : Code := { maxStack := 0, maxLocals := 1, code := object_method_1_code, exceptionTable := #[], attributes := #[] }
def k0m0 : Method := { name := "<init>", desc := "()V", sig := { parameters := [], returnType := none }, accessFlags := 1, code := some k0c0 }
/-- java/lang/Object -/
def k0 : Class := { plain "java/lang/Object" none with
  accessFlags := 33
  interfaces := #[]
  cf := some (fileOf pool0 8 #[] #[{ accessFlags := 1, nameIndex := 5, descriptorIndex := 6, attributes := #[] }] 33 0 #[] #[])
  fields := #[]
  methods := #[k0m0]
  instanceTypes := #[]
  staticTypes := #[]
  resolved := Array.replicate 124 none
  statics := none }

def pool1 : Array CpInfo := pool [(2, .class_ 4), (0, .nameAndType 5 6), (0, u "java/lang/Object"), (0, u "<init>"), (0, u "()V"), (0, .integer 2147483647), (0, .class_ 9), (0, u "com/example/clockwright/clockwright/mcmc/Acceptance"), (0, .methodref 8 3), (0, .methodref 8 12), (0, .nameAndType 13 14), (0, u "count"), (0, u "(Z)V"), (0, .methodref 8 16), (0, .nameAndType 17 18), (0, u "rate"), (0, u "()D"), (0, .methodref 8 20), (0, .nameAndType 21 22), (0, u "proposals"), (0, u "()J"), (0, .methodref 8 24), (0, .nameAndType 25 22), (0, u "accepted"), (0, .methodref 27 28), (0, .class_ 29), (0, .nameAndType 30 31), (0, u "com/example/clockwright/clockwright/mcmc/AcceptanceRatePinLaw"), (0, u "expected"), (0, u "(II)D"), (0, .double 4602678819172646912), (1, .double 4599676419421066581), (1, .double 4604180019048437077), (1, .double 4598175219545276416), (1, .double 4604930618986332160), (3, u "law"), (0, u "(II)Z")] 3

def k1m0 : Method := { name := "<init>", desc := "()V", sig := { parameters := [], returnType := none }, accessFlags := 1, code := none }
def k1c1 : Code := { maxStack := 4, maxLocals := 9, code := code, exceptionTable := #[], attributes := #[] }
def k1m1 : Method := { name := "law", desc := "(II)Z", sig := { parameters := [.int, .int], returnType := some .boolean }, accessFlags := 9, code := some k1c1 }
def k1c2 : Code := { maxStack := 2, maxLocals := 2, code := method_3_code, exceptionTable := #[], attributes := #[] }
def k1m2 : Method := { name := "expected", desc := "(II)D", sig := { parameters := [.int, .int], returnType := some .double }, accessFlags := 10, code := some k1c2 }
/-- com/example/clockwright/clockwright/mcmc/AcceptanceRatePinLaw -/
def k1 : Class := { plain "com/example/clockwright/clockwright/mcmc/AcceptanceRatePinLaw" (some 0) with
  accessFlags := 49
  interfaces := #[]
  cf := some (fileOf pool1 27 #[] #[{ accessFlags := 1, nameIndex := 5, descriptorIndex := 6, attributes := #[] }, { accessFlags := 9, nameIndex := 44, descriptorIndex := 45, attributes := #[] }, { accessFlags := 10, nameIndex := 30, descriptorIndex := 31, attributes := #[] }] 49 2 #[] #[])
  fields := #[]
  methods := #[k1m0, k1m1, k1m2]
  instanceTypes := #[]
  staticTypes := #[]
  resolved := Array.replicate 49 none
  statics := none }

def pool2 : Array CpInfo := pool [(1, .methodref 2 3), (0, .class_ 4), (0, .nameAndType 5 6), (0, u "java/lang/Object"), (0, u "<init>"), (0, u "()V"), (0, .fieldref 8 9), (0, .class_ 10), (0, .nameAndType 11 12), (0, u "com/example/clockwright/clockwright/mcmc/Acceptance"), (0, u "proposals"), (0, u "J"), (0, .fieldref 8 14), (0, .nameAndType 15 12), (0, u "accepted"), (11, u "()J"), (2, .double 9221120237041090560), (3, u "count"), (0, u "(Z)V"), (8, u "rate"), (0, u "()D")] 2

def k2c0 : Code := { maxStack := 1, maxLocals := 1, code := prog_30_method_1_code, exceptionTable := #[], attributes := #[] }
def k2m0 : Method := { name := "<init>", desc := "()V", sig := { parameters := [], returnType := none }, accessFlags := 1, code := some k2c0 }
def k2c1 : Code := { maxStack := 5, maxLocals := 2, code := prog_30_method_2_code, exceptionTable := #[], attributes := #[] }
def k2m1 : Method := { name := "count", desc := "(Z)V", sig := { parameters := [.boolean], returnType := none }, accessFlags := 0, code := some k2c1 }
def k2c2 : Code := { maxStack := 2, maxLocals := 1, code := prog_30_method_5_code, exceptionTable := #[], attributes := #[] }
def k2m2 : Method := { name := "proposals", desc := "()J", sig := { parameters := [], returnType := some .long }, accessFlags := 1, code := some k2c2 }
def k2c3 : Code := { maxStack := 2, maxLocals := 1, code := prog_30_method_6_code, exceptionTable := #[], attributes := #[] }
def k2m3 : Method := { name := "accepted", desc := "()J", sig := { parameters := [], returnType := some .long }, accessFlags := 1, code := some k2c3 }
def k2c4 : Code := { maxStack := 4, maxLocals := 1, code := prog_30_method_7_code, exceptionTable := #[], attributes := #[] }
def k2m4 : Method := { name := "rate", desc := "()D", sig := { parameters := [], returnType := some .double }, accessFlags := 1, code := some k2c4 }
/-- com/example/clockwright/clockwright/mcmc/Acceptance -/
def k2 : Class := { plain "com/example/clockwright/clockwright/mcmc/Acceptance" (some 0) with
  accessFlags := 49
  interfaces := #[]
  cf := some (fileOf pool2 8 #[] #[{ accessFlags := 1, nameIndex := 5, descriptorIndex := 6, attributes := #[] }, { accessFlags := 0, nameIndex := 34, descriptorIndex := 35, attributes := #[] }, { accessFlags := 1, nameIndex := 11, descriptorIndex := 27, attributes := #[] }, { accessFlags := 1, nameIndex := 15, descriptorIndex := 27, attributes := #[] }, { accessFlags := 1, nameIndex := 44, descriptorIndex := 45, attributes := #[] }] 49 2 #[] #[{ accessFlags := 2, nameIndex := 11, descriptorIndex := 12, attributes := #[] }, { accessFlags := 2, nameIndex := 15, descriptorIndex := 12, attributes := #[] }])
  fields := #[{ name := "proposals", type := .long, accessFlags := 2, slot := 0, constantValue := 0 }, { name := "accepted", type := .long, accessFlags := 2, slot := 1, constantValue := 0 }]
  methods := #[k2m0, k2m1, k2m2, k2m3, k2m4]
  instanceTypes := #[.long, .long]
  staticTypes := #[]
  resolved := Array.replicate 48 none
  statics := none }

def pool3 : Array CpInfo := pool [(1, u "java/lang/Cloneable"), (0, .class_ 1), (0, u "java/lang/Object"), (0, .class_ 3)] 3

/-- java/lang/Cloneable -/
def k3 : Class := { plain "java/lang/Cloneable" (some 0) with
  accessFlags := 1537
  interfaces := #[]
  cf := some (fileOf pool3 2 #[] #[] 1537 4 #[] #[])
  fields := #[]
  methods := #[]
  instanceTypes := #[]
  staticTypes := #[]
  resolved := Array.replicate 8 none
  statics := none }

def pool4 : Array CpInfo := pool [(1, u "java/io/Serializable"), (0, .class_ 1), (0, u "java/lang/Object"), (0, .class_ 3)] 3

/-- java/io/Serializable -/
def k4 : Class := { plain "java/io/Serializable" (some 0) with
  accessFlags := 1537
  interfaces := #[]
  cf := some (fileOf pool4 2 #[] #[] 1537 4 #[] #[])
  fields := #[]
  methods := #[]
  instanceTypes := #[]
  staticTypes := #[]
  resolved := Array.replicate 8 none
  statics := none }

/-- the primitive byte -/
def k5 : Class := { plain "byte" none with kind := .primitive 'B', accessFlags := 0x411 }
/-- [B -/
def k6 : Class := { plain "[B" (some 0) with kind := .array 5 .byte, interfaces := #[3, 4], accessFlags := 1041 }

/-- the primitive int -/
def k7 : Class := { plain "int" none with kind := .primitive 'I', accessFlags := 0x411 }
/-- [I -/
def k8 : Class := { plain "[I" (some 0) with kind := .array 7 .int, interfaces := #[3, 4], accessFlags := 1041 }

def heap : Heap := #[]
def classes : Array Class := #[k0, k1, k2, k3, k4, k5, k6, k7, k8]
def interned : List (Array UInt16 × Addr) := []
def slotsUsed : Nat := 0
def theMethod : MethodId := ⟨1, 1⟩
def args0 : Array Value := #[.int 3, .int 5]
def aboutOver (below : List Frame) : State where
  vm := { classes := classes, interned := interned.toArray }
  heap := heap
  slotsUsed := slotsUsed
  threads := #[{ frames := .invoking theMethod args0 :: below }]
def below0 : List Frame := [.native { method := ⟨0, 0⟩, args := #[] }]
def about1 : State := aboutOver below0
def p0 : Program := .bare "" "" ""
def e0 : Env := launch0.env 0 0 0
theorem w_frames : about1.frames = Frame.invoking theMethod args0 :: below0 := rfl
set_option maxRecDepth 65536 in
theorem w_args : argsFit about1.vm theMethod args0 = true := by decide +kernel
set_option maxRecDepth 65536 in
theorem w_heap : heapFits about1 = true := by decide +kernel
set_option maxRecDepth 65536 in
theorem w_runnable : about1.curStatus? = some .runnable := by decide +kernel
set_option maxRecDepth 65536 in
theorem w_alone : about1.alone = true := by decide +kernel
set_option maxRecDepth 65536 in
theorem w_named : about1.methodNamed? x = some theMethod := by decide +kernel
set_option maxRecDepth 65536 in
theorem w_hears : about1.hears theMethod below0 = true := by decide +kernel
set_option maxRecDepth 65536 in
theorem w_ripe : about1.ripe theMethod args0 below0 = true := by decide +kernel
theorem w_running : about1.status = .running := rfl
set_option maxRecDepth 65536 in
theorem w_room : about1.hasRoom e0.platform room_1 = true :=
  launch0.hasRoom_least _ room_1 (by decide +kernel) (by decide +kernel) (by decide +kernel) (by decide +kernel) (by decide +kernel) (by decide +kernel)
theorem allAtoms_all (ts : List Jvm.Cond) (a : Array Jvm.Value) (st : Jvm.State) : (allAtoms ts).before a st = ts.all (fun c => c.before a st) := by
  induction ts with
  | nil => rfl
  | cons c t ih =>
    show (Jvm.Cond.and c (allAtoms t)).before a st = _
    rw [Jvm.Cond.before_and, ih, List.all_cons]
def words1 : List Jvm.Cond := Jvm.Cond.code x code maxLocals ret :: tables_1
/-- a 'code' word, met by the world's own term for the bytes: nothing is compared byte by byte -/
theorem code_word {y : MethodName} {bytes : ByteArray} {mx : Nat} {rt : Option FieldType} {a : Array Value} {s : State} {m : MethodId} {meth : Method} {c : Code} (h1 : s.methodNamed? y = some m) (h2 : s.vm.method? m = some meth) (h3 : meth.code = some c) (h4 : c.code = bytes)
    (h5 : (c.maxLocals == mx && c.exceptionTable.isEmpty && decide (c.maxStack ≤ mostOperands) && decide (meth.sig.returnType = rt) && !meth.locks && decide (parseMethodDescriptor y.desc = some meth.sig)) = true) : (Jvm.Cond.code y bytes mx rt).before a s = true := by
  simp only [Bool.and_eq_true, beq_iff_eq, Bool.not_eq_true', decide_eq_true_eq] at h5
  obtain ⟨⟨⟨⟨⟨g1, g2⟩, g3⟩, g4⟩, g5⟩, g6⟩ := h5
  simp [Cond.before, Cond.holds, Cond.value, h1, h2, h3, h4, g1, g2, g3, g4, g5, g6]
def isCode : Jvm.Cond → Bool
  | .code _ _ _ _ => true
  | _ => false
theorem all_split {L : List Jvm.Cond} {P : Jvm.Cond → Bool} (h1 : L.all (fun c => isCode c || P c) = true) (h2 : ∀ c ∈ L.filter isCode, P c = true) : L.all P = true := by
  refine List.all_eq_true.mpr fun c hc => ?_
  have h := List.all_eq_true.mp h1 c hc
  rcases Bool.eq_false_or_eq_true (isCode c) with hi | hi
  · exact h2 c (List.mem_filter.mpr ⟨hc, hi⟩)
  · simpa [hi] using h
set_option maxRecDepth 65536 in
theorem w_c0 : (Jvm.Cond.code x code maxLocals ret).before args0 about1 = true := code_word (m := ⟨1, 1⟩) (meth := k1m1) (c := k1c1) (by decide +kernel) rfl rfl rfl (by decide +kernel)
set_option maxRecDepth 65536 in
theorem w_c1 : (Jvm.Cond.code ({ cls := "com/example/clockwright/clockwright/mcmc/Acceptance", name := "<init>", desc := "()V" } : Jvm.MethodName) prog_30_method_1_code (1 : Nat) (Option.none : Option Jvm.ClassFile.FieldType)).before args0 about1 = true := code_word (m := ⟨2, 0⟩) (meth := k2m0) (c := k2c0) (by decide +kernel) rfl rfl rfl (by decide +kernel)
set_option maxRecDepth 65536 in
theorem w_c2 : (Jvm.Cond.code ({ cls := "java/lang/Object", name := "<init>", desc := "()V" } : Jvm.MethodName) object_method_1_code (1 : Nat) (Option.none : Option Jvm.ClassFile.FieldType)).before args0 about1 = true := code_word (m := ⟨0, 0⟩) (meth := k0m0) (c := k0c0) (by decide +kernel) rfl rfl rfl (by decide +kernel)
set_option maxRecDepth 65536 in
theorem w_c3 : (Jvm.Cond.code ({ cls := "com/example/clockwright/clockwright/mcmc/Acceptance", name := "rate", desc := "()D" } : Jvm.MethodName) prog_30_method_7_code (1 : Nat) (Option.some Jvm.ClassFile.FieldType.double)).before args0 about1 = true := code_word (m := ⟨2, 4⟩) (meth := k2m4) (c := k2c4) (by decide +kernel) rfl rfl rfl (by decide +kernel)
set_option maxRecDepth 65536 in
theorem w_c4 : (Jvm.Cond.code ({ cls := "com/example/clockwright/clockwright/mcmc/Acceptance", name := "proposals", desc := "()J" } : Jvm.MethodName) prog_30_method_5_code (1 : Nat) (Option.some Jvm.ClassFile.FieldType.long)).before args0 about1 = true := code_word (m := ⟨2, 2⟩) (meth := k2m2) (c := k2c2) (by decide +kernel) rfl rfl rfl (by decide +kernel)
set_option maxRecDepth 65536 in
theorem w_c5 : (Jvm.Cond.code ({ cls := "com/example/clockwright/clockwright/mcmc/Acceptance", name := "accepted", desc := "()J" } : Jvm.MethodName) prog_30_method_6_code (1 : Nat) (Option.some Jvm.ClassFile.FieldType.long)).before args0 about1 = true := code_word (m := ⟨2, 3⟩) (meth := k2m3) (c := k2c3) (by decide +kernel) rfl rfl rfl (by decide +kernel)
set_option maxRecDepth 65536 in
theorem w_c6 : (Jvm.Cond.code ({ cls := "com/example/clockwright/clockwright/mcmc/Acceptance", name := "count", desc := "(Z)V" } : Jvm.MethodName) prog_30_method_2_code (2 : Nat) (Option.none : Option Jvm.ClassFile.FieldType)).before args0 about1 = true := code_word (m := ⟨2, 1⟩) (meth := k2m1) (c := k2c1) (by decide +kernel) rfl rfl rfl (by decide +kernel)
set_option maxRecDepth 65536 in
theorem w_c7 : (Jvm.Cond.code ({ cls := "com/example/clockwright/clockwright/mcmc/AcceptanceRatePinLaw", name := "expected", desc := "(II)D" } : Jvm.MethodName) method_3_code (2 : Nat) (Option.some Jvm.ClassFile.FieldType.double)).before args0 about1 = true := code_word (m := ⟨1, 2⟩) (meth := k1m2) (c := k1c2) (by decide +kernel) rfl rfl rfl (by decide +kernel)
def codes1 : List Jvm.Cond := [Jvm.Cond.code x code maxLocals ret, Jvm.Cond.code ({ cls := "com/example/clockwright/clockwright/mcmc/Acceptance", name := "<init>", desc := "()V" } : Jvm.MethodName) prog_30_method_1_code (1 : Nat) (Option.none : Option Jvm.ClassFile.FieldType), Jvm.Cond.code ({ cls := "java/lang/Object", name := "<init>", desc := "()V" } : Jvm.MethodName) object_method_1_code (1 : Nat) (Option.none : Option Jvm.ClassFile.FieldType), Jvm.Cond.code ({ cls := "com/example/clockwright/clockwright/mcmc/Acceptance", name := "rate", desc := "()D" } : Jvm.MethodName) prog_30_method_7_code (1 : Nat) (Option.some Jvm.ClassFile.FieldType.double), Jvm.Cond.code ({ cls := "com/example/clockwright/clockwright/mcmc/Acceptance", name := "proposals", desc := "()J" } : Jvm.MethodName) prog_30_method_5_code (1 : Nat) (Option.some Jvm.ClassFile.FieldType.long), Jvm.Cond.code ({ cls := "com/example/clockwright/clockwright/mcmc/Acceptance", name := "accepted", desc := "()J" } : Jvm.MethodName) prog_30_method_6_code (1 : Nat) (Option.some Jvm.ClassFile.FieldType.long), Jvm.Cond.code ({ cls := "com/example/clockwright/clockwright/mcmc/Acceptance", name := "count", desc := "(Z)V" } : Jvm.MethodName) prog_30_method_2_code (2 : Nat) (Option.none : Option Jvm.ClassFile.FieldType), Jvm.Cond.code ({ cls := "com/example/clockwright/clockwright/mcmc/AcceptanceRatePinLaw", name := "expected", desc := "(II)D" } : Jvm.MethodName) method_3_code (2 : Nat) (Option.some Jvm.ClassFile.FieldType.double)]
set_option maxRecDepth 65536 in
theorem codes_eq : words1.filter isCode = codes1 := rfl
theorem w_codes : ∀ c ∈ words1.filter isCode, c.before args0 about1 = true := by
  rw [codes_eq]
  intro c hc
  simp only [codes1, List.mem_cons, List.not_mem_nil, or_false] at hc
  rcases hc with rfl | rfl | rfl | rfl | rfl | rfl | rfl | rfl
  · exact w_c0
  · exact w_c1
  · exact w_c2
  · exact w_c3
  · exact w_c4
  · exact w_c5
  · exact w_c6
  · exact w_c7
set_option maxRecDepth 65536 in
theorem w_t1 : (words1.take 24).all (fun c => isCode c || c.before args0 about1) = true := by decide +kernel
set_option maxRecDepth 65536 in
theorem w_t2 : (words1.drop 24).all (fun c => isCode c || c.before args0 about1) = true := by decide +kernel
theorem w_tables : (allAtoms (Jvm.Cond.code x code maxLocals ret :: tables_1)).before args0 about1 = true := by
  rw [allAtoms_all]
  show words1.all (fun c => c.before args0 about1) = true
  refine all_split ?_ w_codes
  rw [← List.take_append_drop 24 words1, List.all_append, w_t1, w_t2]
  rfl
set_option maxRecDepth 65536 in
theorem w_case : (Jvm.Cond.and given_1 narrow_1).before args0 about1 = true := by decide +kernel
theorem w_applies : (headSpec (Jvm.Cond.code x code maxLocals ret :: tables_1) room_1).applies x e0.platform about1 = true :=
  (Spec.applies_iff w_frames).mpr ⟨w_running, w_runnable, w_alone, w_named, w_hears, w_ripe, w_room, w_tables⟩
theorem atStart : AtStart classFile x code maxLocals ret World_1 tables_1 room_1 Calls_1 rest_1 Pre_1 launch0 p0 e0 about1 theMethod args0 below0 :=
  ⟨lists_1, trivial, launch0.admits_env _ _ _, launch0.least_env, fairChoices_fair.cas, fairChoices_fair.clock, w_frames, w_args, w_heap, w_applies, trivial, trivial, w_case⟩
end start1
theorem witness_1 : WitnessClaimed_1 := ⟨start1.p0, start1.e0, start1.about1, start1.theMethod, start1.args0, start1.below0, start1.atStart⟩
end Jvm.Pilot.@@N@@
