import JvmDerived
import JvmDerived.Pilot.@@N@@Statement
import JvmDerived.Pilot.@@N@@Code
set_option linter.unusedVariables false
set_option linter.unusedSimpArgs false
namespace Jvm.RoadKit
open Sem ClassFile Op Lib Jvm.Stand Jvm.Free Jvm.LawKit
section New
variable {p : Program} {l : Launch} {e : Env} {R : Room} {s : State} {m : MethodId} {args : Array Value} {below : List Frame} {meth : Method} {c : Code} {T : State} {locs : List Loc} {cells slots : Nat}
theorem retI (X : Stand p l e R s m args below meth c T locs cells slots) (hx : p.tables.exec = Jvm.exec) {pc : Nat} {Ls : Array Slot} {z : Int32} {rest : List Value} (hret : meth.sig.returnType = some .int) (hd : decode c.code pc = .ok (.ireturn, 1)) {fs : List Frame}
    (hl : ∀ (f : JFrame) (acts : List Action), f.method = m → f.locked = none → f.entered = [] → (doReturn e (T.setTop f) acts (some (.int z))).1 = T.setFrames fs) : Steps p.tables e below (T.setTop (mkF m pc Ls (.int z :: rest))) (T.setFrames fs) := by
  have hm' : T.vm.method? m = some meth := X.method'
  have hn : narrow .int (.int z) = .int z := rfl
  show Steps p.tables e below (T.setTop { method := m, pc := pc, locals := Ls, stack := _ :: rest, locked := none }) _
  jvm_step X.here [X.here.top, hx, hd, hm', hret, hn]
  first | (intro acts; rw [hl _ acts rfl rfl rfl]) | rw [hl _ _ rfl rfl rfl]
  exact Steps.refl _
end New
end Jvm.RoadKit
namespace Jvm.Pilot.@@N@@
open Jvm Jvm.ClassFile Sem Op Lib Jvm.Free Jvm.Stand Jvm.LawKit Jvm.RoadKit Bundle Jvm.Pilot.@@N@@.Jvm.D
abbrev own_S (p : Program) (e : Env) (b : List Frame) (T : State) (m : MethodId) (pc : Nat) (L : Array Slot) (S : List Value) (t : State) : Prop := Steps p.tables e b (T.setTop (mkF m pc L S)) t
theorem own_eqI {args : Array Value} {s : State} {a : Term} {k : Int32} (h : (Jvm.Cond.eq a (.int k)).value args s none s [] = some true) : a.eval args s none [] s = some (.int k) := by
  obtain ⟨x, y, e1, e2, k1, -⟩ := cmp_v (Or.inl h)
  cases (show (Term.int k).eval args s none [] s = some (.int k) from rfl).symm.trans e2
  cases x with
  | int z => rw [gotT (Cond.eq_ints e1 e2) h] at e1; exact e1
  | _ => first | (obtain ⟨z, q⟩ := k1; cases q; done) | (exact absurd k1.2 (by simp [Value.isRef]))
theorem own_eqL {args : Array Value} {s : State} {a : Term} {k : Int64} (h : (Jvm.Cond.eq a (.long k)).value args s none s [] = some true) : a.eval args s none [] s = some (.long k) := by
  obtain ⟨x, y, e1, e2, k1, -⟩ := cmp_v (Or.inl h)
  cases (show (Term.long k).eval args s none [] s = some (.long k) from rfl).symm.trans e2
  cases x with
  | long z => rw [gotT (eq_L e1 e2) h] at e1; exact e1
  | _ => first | (obtain ⟨z, q⟩ := k1; cases q; done) | (exact absurd k1.2 (by simp [Value.isRef]))
theorem own_eqR {args : Array Value} {s : State} {a b : Term} {y : Addr} (h : (Jvm.Cond.eq a b).value args s none s [] = some true) (eb : b.eval args s none [] s = some (.ref y)) : a.eval args s none [] s = some (.ref y) := by
  obtain ⟨x, z, e1, e2, k1, k2⟩ := cmp_v (Or.inl h)
  cases eb.symm.trans e2
  have hx : x.isRef = true := k2.2
  rw [gotT (eq_R e1 e2 hx rfl) h] at e1; exact e1
def own_of (p q : Int32) (x y z : Addr) : Addr := if p = 0 then z else if q = 0 then y else x
theorem pn_0 : plainName "com/example/garter/garter/copy/OwnMoved" = true := by first | (simp [plainName, overriddenIn]; done) | decide +kernel
theorem ef_1 (m : MethodId) (p1 : Int32) (p2 : Int32) : entryFrame m #[(.int p1), (.int p2)] 3 = mkF m 0 #[iv p1, iv p2, .unset] [] := by first | (simp [entryFrame, mkF, argsToLocals, Value.category]; done) | rfl
def Q1 (Z : State) (p1 : Int32) (p2 : Int32) (aX : Addr) (aK : Addr) (aT : Addr) (h0 : Heap) (n0 : Nat) (v : Option Value) (h : Heap) (L : List Loc) : Prop := v = some (.ref (own_of p1 p2 aX aK aT)) ∧ Fr n0 L ∧ h = h0
theorem d1_0 : decode prog_64_method_4_code 0 = .ok (.iload_n 0, 1) := by decide +kernel
theorem d1_1 : decode prog_64_method_4_code 1 = .ok (.ifCond .eq 14, 3) := by decide +kernel
theorem d1_15 : decode prog_64_method_4_code 15 = .ok (.iload_n 0, 1) := by decide +kernel
theorem d1_16 : decode prog_64_method_4_code 16 = .ok (.ifCond .eq 10, 3) := by decide +kernel
theorem d1_26 : decode prog_64_method_4_code 26 = .ok (.getstatic 10, 3) := by decide +kernel
theorem d1_29 : decode prog_64_method_4_code 29 = .ok (.astore_n 2, 1) := by decide +kernel
theorem d1_30 : decode prog_64_method_4_code 30 = .ok (.aload_n 2, 1) := by decide +kernel
theorem d1_31 : decode prog_64_method_4_code 31 = .ok (.areturn, 1) := by decide +kernel
theorem d1_4 : decode prog_64_method_4_code 4 = .ok (.iload_n 1, 1) := by decide +kernel
theorem d1_5 : decode prog_64_method_4_code 5 = .ok (.ifCond .eq 10, 3) := by decide +kernel
theorem d1_19 : decode prog_64_method_4_code 19 = .ok (.getstatic 7, 3) := by decide +kernel
theorem d1_22 : decode prog_64_method_4_code 22 = .ok (.astore_n 2, 1) := by decide +kernel
theorem d1_23 : decode prog_64_method_4_code 23 = .ok (.goto 7, 3) := by decide +kernel
theorem d1_8 : decode prog_64_method_4_code 8 = .ok (.getstatic 3, 3) := by decide +kernel
theorem d1_11 : decode prog_64_method_4_code 11 = .ok (.astore_n 2, 1) := by decide +kernel
theorem d1_12 : decode prog_64_method_4_code 12 = .ok (.goto 18, 3) := by decide +kernel
set_option maxRecDepth 65536 in
set_option maxHeartbeats 40000000 in
theorem rm1 (l : Launch) (Z : State) (a0 : Array Value) (hw : ∀ d ∈ tables_1, d.before a0 Z = true) (ws : List Jvm.Cond) (p1 : Int32) (p2 : Int32) (aX : Addr) (aK : Addr) (aT : Addr) (h0 : Heap) (n0 : Nat) (Z0 : n0 ≤ h0.size) (S_aX : Sta Z h0 "com/example/garter/garter/copy/OwnMoved" "KEYS_AND_TRIGGERS" "Lcom/example/garter/garter/copy/OwnMoved;" (.ref aX)) (S_aK : Sta Z h0 "com/example/garter/garter/copy/OwnMoved" "KEYS" "Lcom/example/garter/garter/copy/OwnMoved;" (.ref aK)) (S_aT : Sta Z h0 "com/example/garter/garter/copy/OwnMoved" "TRIGGERS" "Lcom/example/garter/garter/copy/OwnMoved;" (.ref aT)) :
    MetFree l (⟨"com/example/garter/garter/copy/OwnMoved", "of", "(ZZ)Lcom/example/garter/garter/copy/OwnMoved;"⟩ : MethodName) (head1 (Jvm.Cond.code (⟨"com/example/garter/garter/copy/OwnMoved", "of", "(ZZ)Lcom/example/garter/garter/copy/OwnMoved;"⟩ : MethodName) prog_64_method_4_code 3 (some (.object "com/example/garter/garter/copy/OwnMoved")) :: ws) ({ frames := 0, cells := 0, slots := 0, locals := 0 } : Room)) (fun a U => a = #[(.int p1), (.int p2)] ∧ Z.Warmed39 U.vm ∧ U.heap = h0) (fun _ _ _ _ _ => True) (fun _ U o U' => ∃ v L, o = .returned v ∧ Q1 Z p1 p2 aX aK aT h0 n0 v U'.heap L ∧ FrameEnd U o U' L ({ frames := 0, cells := 0, slots := 0, locals := 0 } : Room).cells ({ frames := 0, cells := 0, slots := 0, locals := 0 } : Room).slots) := by
  refine MetFree.of_bodySF (plainFor_of_name pn_0) hisR ?_
  intro p e s m args below meth c s₁ Bd hml0 hP hK
  obtain ⟨rfl, hZ, hh⟩ := hP
  have hx := Bd.exec
  have hby := Bd.bytes
  have hml : c.maxLocals = 3 := hml0
  have hown : s.vm.findClass "com/example/garter/garter/copy/OwnMoved" = some m.cls := findClass_of_methodNamed Bd.named
  have hnm := (name_of_methodNamed Bd.named Bd.method).1
  have X0 : Stand p l e ({ frames := 0, cells := 0, slots := 0, locals := 0 } : Room) s m #[(.int p1), (.int p2)] below meth c s₁ [] 0 0 := Stand.of_body Bd
  have e0 : s₁.heap = h0 := by rw [← hh, Bd.state]; rfl
  have N0 := Fr.nil n0
  have pre0 : ∀ t, Steps p.tables e below (s₁.setTop (mkF m 0 #[iv p1, iv p2, .unset] [])) t → Steps p.tables e below (s₁.setTop (entryFrame m #[(.int p1), (.int p2)] 3)) t := fun t k => castTop (ef_1 m p1 p2) k
  have pre2 : ∀ t, own_S p e below s₁ m 1 #[iv p1, iv p2, .unset] [(.int p1)] t → Steps p.tables e below (s₁.setTop (entryFrame m #[(.int p1), (.int p2)] 3)) t := fun t k => pre0 t (by
    show own_S p e below s₁ m 0 #[iv p1, iv p2, .unset] [] _
    refine XS.iloadN X0.here hx rfl (hb hby d1_0) rfl ?_
    exact k)
  by_cases hc1_1 : p1 = (0 : Int32)
  ·  -- pc 1 yes
    obtain ⟨T3, X3, e3, st3⟩ := getS2 X0 hx hZ hown (host := "") (Or.inl (hw _ (List.mem_of_getElem? (i := 4) rfl))) Via.refl e0 S_aT (g := (mkF m 26 #[iv p1, iv p2, .unset] [])) rfl (hb hby d1_26)
    have pre4 : ∀ t, own_S p e below T3 m 31 #[iv p1, iv p2, rv aT] [(.ref aT)] t → Steps p.tables e below (s₁.setTop (entryFrame m #[(.int p1), (.int p2)] 3)) t := fun t k => pre2 t (by
      show own_S p e below s₁ m 1 #[iv p1, iv p2, .unset] [(.int p1)] _
      refine XS.ifYes X0.here hx rfl (pc0 := 1) (pc' := 15) rfl (hb hby d1_1) rfl ((if0 _ _).trans (teq hc1_1).1) (by decide) (by decide) ?_
      show own_S p e below s₁ m 15 #[iv p1, iv p2, .unset] [] _
      refine XS.iloadN X0.here hx rfl (hb hby d1_15) rfl ?_
      show own_S p e below s₁ m 16 #[iv p1, iv p2, .unset] [(.int p1)] _
      refine XS.ifYes X0.here hx rfl (pc0 := 16) (pc' := 26) rfl (hb hby d1_16) rfl ((if0 _ _).trans (teq hc1_1).1) (by decide) (by decide) ?_
      show own_S p e below s₁ m 26 #[iv p1, iv p2, .unset] [] _
      refine st3 _ ?_
      show own_S p e below T3 m 29 #[iv p1, iv p2, .unset] [(.ref aT)] _
      refine XS.astoreN X3.here hx rfl (hb hby d1_29) rfl rfl (l' := #[iv p1, iv p2, rv aT]) rfl ?_
      show own_S p e below T3 m 30 #[iv p1, iv p2, rv aT] [] _
      refine XS.aloadN X3.here hx rfl (hb hby d1_30) rfl rfl ?_
      exact k)
    obtain ⟨fs, hr, hrun, hended, hW, hsame⟩ := X3.leave (v := some (.ref aT)) (fun h => by rw [Bd.returns] at h; cases h)
    refine ⟨_, _, pre4 _ ?_, hrun, hended, _, _, rfl, ?_, ⟨_, rfl⟩, hW, hsame.mono (by decide) (by decide)⟩
    · show own_S p e below T3 m 31 #[iv p1, iv p2, rv aT] [(.ref aT)] _
      jvm_step X3.here [X3.here.top, hx, (hb hby d1_31), X3.method', Bd.returns, Value.isRef, FieldType.isReference]
      first | (intro acts; rw [hr _ acts rfl rfl rfl]) | rw [hr _ _ rfl rfl rfl]
      exact Steps.refl _
    · show Q1 Z p1 p2 aX aK aT h0 n0 _ T3.heap _
      rw [e3]
      exact ⟨by simp [own_of, hc1_1], N0, rfl⟩
  ·  -- pc 1 no
    have pre6 : ∀ t, own_S p e below s₁ m 5 #[iv p1, iv p2, .unset] [(.int p2)] t → Steps p.tables e below (s₁.setTop (entryFrame m #[(.int p1), (.int p2)] 3)) t := fun t k => pre2 t (by
      show own_S p e below s₁ m 1 #[iv p1, iv p2, .unset] [(.int p1)] _
      refine XS.ifNo X0.here hx rfl (hb hby d1_1) rfl ((if0 _ _).trans (feq hc1_1).1) ?_
      show own_S p e below s₁ m 4 #[iv p1, iv p2, .unset] [] _
      refine XS.iloadN X0.here hx rfl (hb hby d1_4) rfl ?_
      exact k)
    by_cases hc5_5 : p2 = (0 : Int32)
    ·  -- pc 5 yes
      obtain ⟨T7, X7, e7, st7⟩ := getS2 X0 hx hZ hown (host := "") (Or.inl (hw _ (List.mem_of_getElem? (i := 12) rfl))) Via.refl e0 S_aK (g := (mkF m 19 #[iv p1, iv p2, .unset] [])) rfl (hb hby d1_19)
      have pre8 : ∀ t, own_S p e below T7 m 31 #[iv p1, iv p2, rv aK] [(.ref aK)] t → Steps p.tables e below (s₁.setTop (entryFrame m #[(.int p1), (.int p2)] 3)) t := fun t k => pre6 t (by
        show own_S p e below s₁ m 5 #[iv p1, iv p2, .unset] [(.int p2)] _
        refine XS.ifYes X0.here hx rfl (pc0 := 5) (pc' := 15) rfl (hb hby d1_5) rfl ((if0 _ _).trans (teq hc5_5).1) (by decide) (by decide) ?_
        show own_S p e below s₁ m 15 #[iv p1, iv p2, .unset] [] _
        refine XS.iloadN X0.here hx rfl (hb hby d1_15) rfl ?_
        show own_S p e below s₁ m 16 #[iv p1, iv p2, .unset] [(.int p1)] _
        refine XS.ifNo X0.here hx rfl (hb hby d1_16) rfl ((if0 _ _).trans (feq hc1_1).1) ?_
        show own_S p e below s₁ m 19 #[iv p1, iv p2, .unset] [] _
        refine st7 _ ?_
        show own_S p e below T7 m 22 #[iv p1, iv p2, .unset] [(.ref aK)] _
        refine XS.astoreN X7.here hx rfl (hb hby d1_22) rfl rfl (l' := #[iv p1, iv p2, rv aK]) rfl ?_
        show own_S p e below T7 m 23 #[iv p1, iv p2, rv aK] [] _
        refine XS.goto X7.here hx rfl (pc0 := 23) (pc' := 30) rfl (hb hby d1_23) (by decide) (by decide) ?_
        show own_S p e below T7 m 30 #[iv p1, iv p2, rv aK] [] _
        refine XS.aloadN X7.here hx rfl (hb hby d1_30) rfl rfl ?_
        exact k)
      obtain ⟨fs, hr, hrun, hended, hW, hsame⟩ := X7.leave (v := some (.ref aK)) (fun h => by rw [Bd.returns] at h; cases h)
      refine ⟨_, _, pre8 _ ?_, hrun, hended, _, _, rfl, ?_, ⟨_, rfl⟩, hW, hsame.mono (by decide) (by decide)⟩
      · show own_S p e below T7 m 31 #[iv p1, iv p2, rv aK] [(.ref aK)] _
        jvm_step X7.here [X7.here.top, hx, (hb hby d1_31), X7.method', Bd.returns, Value.isRef, FieldType.isReference]
        first | (intro acts; rw [hr _ acts rfl rfl rfl]) | rw [hr _ _ rfl rfl rfl]
        exact Steps.refl _
      · show Q1 Z p1 p2 aX aK aT h0 n0 _ T7.heap _
        rw [e7]
        exact ⟨by simp [own_of, hc1_1, hc5_5], N0, rfl⟩
    ·  -- pc 5 no
      obtain ⟨T9, X9, e9, st9⟩ := getS2 X0 hx hZ hown (host := "") (Or.inl (hw _ (List.mem_of_getElem? (i := 11) rfl))) Via.refl e0 S_aX (g := (mkF m 8 #[iv p1, iv p2, .unset] [])) rfl (hb hby d1_8)
      have pre10 : ∀ t, own_S p e below T9 m 31 #[iv p1, iv p2, rv aX] [(.ref aX)] t → Steps p.tables e below (s₁.setTop (entryFrame m #[(.int p1), (.int p2)] 3)) t := fun t k => pre6 t (by
        show own_S p e below s₁ m 5 #[iv p1, iv p2, .unset] [(.int p2)] _
        refine XS.ifNo X0.here hx rfl (hb hby d1_5) rfl ((if0 _ _).trans (feq hc5_5).1) ?_
        show own_S p e below s₁ m 8 #[iv p1, iv p2, .unset] [] _
        refine st9 _ ?_
        show own_S p e below T9 m 11 #[iv p1, iv p2, .unset] [(.ref aX)] _
        refine XS.astoreN X9.here hx rfl (hb hby d1_11) rfl rfl (l' := #[iv p1, iv p2, rv aX]) rfl ?_
        show own_S p e below T9 m 12 #[iv p1, iv p2, rv aX] [] _
        refine XS.goto X9.here hx rfl (pc0 := 12) (pc' := 30) rfl (hb hby d1_12) (by decide) (by decide) ?_
        show own_S p e below T9 m 30 #[iv p1, iv p2, rv aX] [] _
        refine XS.aloadN X9.here hx rfl (hb hby d1_30) rfl rfl ?_
        exact k)
      obtain ⟨fs, hr, hrun, hended, hW, hsame⟩ := X9.leave (v := some (.ref aX)) (fun h => by rw [Bd.returns] at h; cases h)
      refine ⟨_, _, pre10 _ ?_, hrun, hended, _, _, rfl, ?_, ⟨_, rfl⟩, hW, hsame.mono (by decide) (by decide)⟩
      · show own_S p e below T9 m 31 #[iv p1, iv p2, rv aX] [(.ref aX)] _
        jvm_step X9.here [X9.here.top, hx, (hb hby d1_31), X9.method', Bd.returns, Value.isRef, FieldType.isReference]
        first | (intro acts; rw [hr _ acts rfl rfl rfl]) | rw [hr _ _ rfl rfl rfl]
        exact Steps.refl _
      · show Q1 Z p1 p2 aX aK aT h0 n0 _ T9.heap _
        rw [e9]
        exact ⟨by simp [own_of, hc1_1, hc5_5], N0, rfl⟩
theorem pn_1 : plainName "com/example/garter/garter/copy/OwnMovedOfPinLaw" = true := by first | (simp [plainName, overriddenIn]; done) | decide +kernel
theorem ef_0 (m : MethodId) (p1 : Int32) : entryFrame m #[(.int p1)] maxLocals = mkF m 0 #[iv p1, .unset, .unset, .unset, .unset, .unset, .unset] [] := by first | (simp [entryFrame, mkF, argsToLocals, Value.category, maxLocals]; done) | rfl
def Q0 (Z : State) (p1 : Int32) (aX : Addr) (aK : Addr) (aT : Addr) (h0 : Heap) (n0 : Nat) (v : Option Value) (h : Heap) (L : List Loc) : Prop := v = some (.int 1) ∧ Fr n0 L
theorem pd_0 : parseMethodDescriptor "(ZZ)Lcom/example/garter/garter/copy/OwnMoved;" = some ⟨[.boolean, .boolean], some (.object "com/example/garter/garter/copy/OwnMoved")⟩ := by decide +kernel
set_option maxRecDepth 65536 in
set_option maxHeartbeats 40000000 in
theorem rm0 (l : Launch) (Z : State) (a0 : Array Value) (hw : ∀ d ∈ tables_1, d.before a0 Z = true) (ws : List Jvm.Cond) (p1 : Int32) (aX : Addr) (aK : Addr) (aT : Addr) (h0 : Heap) (n0 : Nat) (Z0 : n0 ≤ h0.size) (S_aX : Sta Z h0 "com/example/garter/garter/copy/OwnMoved" "KEYS_AND_TRIGGERS" "Lcom/example/garter/garter/copy/OwnMoved;" (.ref aX)) (S_aK : Sta Z h0 "com/example/garter/garter/copy/OwnMoved" "KEYS" "Lcom/example/garter/garter/copy/OwnMoved;" (.ref aK)) (S_aT : Sta Z h0 "com/example/garter/garter/copy/OwnMoved" "TRIGGERS" "Lcom/example/garter/garter/copy/OwnMoved;" (.ref aT)) (neXK : aX ≠ aK) (neXT : aX ≠ aT) (neKT : aK ≠ aT) :
    MetFree l x (head1 (Jvm.Cond.code x code maxLocals ret :: ws) room_1) (fun a U => a = #[(.int p1)] ∧ Z.Warmed39 U.vm ∧ U.heap = h0) (fun _ _ _ _ _ => True) (fun _ U o U' => ∃ v L, o = .returned v ∧ Q0 Z p1 aX aK aT h0 n0 v U'.heap L ∧ FrameEnd U o U' L room_1.cells room_1.slots) := by
  refine MetFree.of_bodySF (plainFor_of_name pn_1) hisR ?_
  intro p e s m args below meth c s₁ Bd hml0 hP hK
  obtain ⟨rfl, hZ, hh⟩ := hP
  have hx := Bd.exec
  have hby := Bd.bytes
  have hml : c.maxLocals = 7 := hml0
  have hown : s.vm.findClass "com/example/garter/garter/copy/OwnMovedOfPinLaw" = some m.cls := findClass_of_methodNamed Bd.named
  have hnm := (name_of_methodNamed Bd.named Bd.method).1
  have X0 : Stand p l e room_1 s m #[(.int p1)] below meth c s₁ [] 0 0 := Stand.of_body Bd
  have e0 : s₁.heap = h0 := by rw [← hh, Bd.state]; rfl
  have N0 := Fr.nil n0
  have pre0 : ∀ t, Steps p.tables e below (s₁.setTop (mkF m 0 #[iv p1, .unset, .unset, .unset, .unset, .unset, .unset] [])) t → Steps p.tables e below (s₁.setTop (entryFrame m #[(.int p1)] maxLocals)) t := fun t k => castTop (ef_0 m p1) k
  have pre2 : ∀ t, own_S p e below s₁ m 3 #[iv p1, .unset, .unset, .unset, .unset, .unset, .unset] [(.int (p1 &&& (1 : Int32)))] t → Steps p.tables e below (s₁.setTop (entryFrame m #[(.int p1)] maxLocals)) t := fun t k => pre0 t (by
    show own_S p e below s₁ m 0 #[iv p1, .unset, .unset, .unset, .unset, .unset, .unset] [] _
    refine XS.iloadN X0.here hx rfl (hb hby at_0) rfl ?_
    show own_S p e below s₁ m 1 #[iv p1, .unset, .unset, .unset, .unset, .unset, .unset] [(.int p1)] _
    refine XS.iconst X0.here hx rfl (hb hby at_1) ?_
    show own_S p e below s₁ m 2 #[iv p1, .unset, .unset, .unset, .unset, .unset, .unset] [(.int (1 : Int32)), (.int p1)] _
    refine XS.iand X0.here hx rfl (hb hby at_2) rfl ?_
    exact k)
  by_cases hc3_1 : (p1 &&& (1 : Int32)) = (0 : Int32)
  ·  -- pc 3 yes
    have pre4 : ∀ t, own_S p e below s₁ m 15 #[iv p1, iv (0 : Int32), .unset, .unset, .unset, .unset, .unset] [(.int (p1 &&& (2 : Int32)))] t → Steps p.tables e below (s₁.setTop (entryFrame m #[(.int p1)] maxLocals)) t := fun t k => pre2 t (by
      show own_S p e below s₁ m 3 #[iv p1, .unset, .unset, .unset, .unset, .unset, .unset] [(.int (p1 &&& (1 : Int32)))] _
      refine XS.ifYes X0.here hx rfl (pc0 := 3) (pc' := 10) rfl (hb hby at_3) rfl ((if0 _ _).trans (teq hc3_1).1) (by decide) (by decide) ?_
      show own_S p e below s₁ m 10 #[iv p1, .unset, .unset, .unset, .unset, .unset, .unset] [] _
      refine XS.iconst X0.here hx rfl (hb hby at_10) ?_
      show own_S p e below s₁ m 11 #[iv p1, .unset, .unset, .unset, .unset, .unset, .unset] [(.int (0 : Int32))] _
      refine XS.istoreN X0.here hx rfl (hb hby at_11) rfl (l' := #[iv p1, iv (0 : Int32), .unset, .unset, .unset, .unset, .unset]) rfl ?_
      show own_S p e below s₁ m 12 #[iv p1, iv (0 : Int32), .unset, .unset, .unset, .unset, .unset] [] _
      refine XS.iloadN X0.here hx rfl (hb hby at_12) rfl ?_
      show own_S p e below s₁ m 13 #[iv p1, iv (0 : Int32), .unset, .unset, .unset, .unset, .unset] [(.int p1)] _
      refine XS.iconst X0.here hx rfl (hb hby at_13) ?_
      show own_S p e below s₁ m 14 #[iv p1, iv (0 : Int32), .unset, .unset, .unset, .unset, .unset] [(.int (2 : Int32)), (.int p1)] _
      refine XS.iand X0.here hx rfl (hb hby at_14) rfl ?_
      exact k)
    by_cases hc15_3 : (p1 &&& (2 : Int32)) = (0 : Int32)
    ·  -- pc 15 yes
      obtain ⟨_, _, ⟨T5, L5, k5, n5⟩, -, X5, ⟨Lc5, hQ5, l5, y5, z5⟩, st5⟩ := Jvm.LawKit.callS X0 hx (y := (⟨"com/example/garter/garter/copy/OwnMoved", "of", "(ZZ)Lcom/example/garter/garter/copy/OwnMoved;"⟩ : MethodName)) hown (mvT hZ (hw _ (List.mem_of_getElem? (i := 0) rfl))) (mvT hZ (hw _ (List.mem_of_getElem? (i := 1) rfl))) (mvT hZ (hw _ (List.mem_of_getElem? (i := 2) rfl))) (mvT hZ (hw _ (List.mem_of_getElem? (i := 3) rfl))) (by decide) (backOf (W := 0) (rm1 l Z a0 hw [] (0 : Int32) (0 : Int32) aX aK aT h0 n0 Z0 S_aX S_aK S_aT) hZ (hw _ (List.mem_of_getElem? (i := 3) rfl)) (hw _ (List.mem_of_getElem? (i := 2) rfl)) (by decide) (by decide)) (g := (mkF m 26 #[iv p1, iv (0 : Int32), iv (0 : Int32), .unset, .unset, .unset, .unset] [(.int (0 : Int32)), (.int (0 : Int32))])) rfl (by rw [hml]; rfl) (argsL := [(.int (0 : Int32)), (.int (0 : Int32))]) (rest := []) (lenOf pd_0 rfl) rfl (by show 2 * 0 + _ ≤ _; exact Nat.le_of_eq rfl) (hb hby at_26) (fun _ _ => ⟨rfl, e0, (by decide : 0 + 0 ≤ _), (by decide : 0 + 0 ≤ _)⟩)
      dsimp only [Pt.U, Pt.locs, Pt.cells, Pt.slots] at X5 l5 y5 z5 st5 hQ5
      subst l5 y5 z5
      obtain ⟨hv5, N5q, e5q⟩ := hQ5
      have N5 := Fr.app N0 N5q
      rw [show own_of (0 : Int32) (0 : Int32) aX aK aT = aT from by simp [own_of]] at hv5
      subst hv5
      have e5 : T5.heap = h0 := e5q
      obtain ⟨T6, X6, e6, st6⟩ := getS2 X5 hx hZ hown (host := "") (Or.inl (hw _ (List.mem_of_getElem? (i := 6) rfl))) Via.refl e5 S_aX (g := (mkF m 37 #[iv p1, iv (0 : Int32), iv (0 : Int32), rv aT, .unset, .unset, .unset] [(.ref aT)])) rfl (hb hby at_37)
      obtain ⟨T7, X7, e7, st7⟩ := getS2 X6 hx hZ hown (host := "") (Or.inl (hw _ (List.mem_of_getElem? (i := 8) rfl))) Via.refl e6 S_aK (g := (mkF m 44 #[iv p1, iv (0 : Int32), iv (0 : Int32), rv aT, .unset, .unset, .unset] [(.ref aT)])) rfl (hb hby at_44)
      obtain ⟨T8, X8, e8, st8⟩ := getS2 X7 hx hZ hown (host := "") (Or.inl (hw _ (List.mem_of_getElem? (i := 6) rfl))) Via.refl e7 S_aX (g := (mkF m 58 #[iv p1, iv (0 : Int32), iv (0 : Int32), rv aT, iv (0 : Int32), .unset, .unset] [(.ref aT)])) rfl (hb hby at_58)
      obtain ⟨T9, X9, e9, st9⟩ := getS2 X8 hx hZ hown (host := "") (Or.inl (hw _ (List.mem_of_getElem? (i := 10) rfl))) Via.refl e8 S_aT (g := (mkF m 65 #[iv p1, iv (0 : Int32), iv (0 : Int32), rv aT, iv (0 : Int32), .unset, .unset] [(.ref aT)])) rfl (hb hby at_65)
      have pre10 : ∀ t, own_S p e below T9 m 111 #[iv p1, iv (0 : Int32), iv (0 : Int32), rv aT, iv (0 : Int32), iv (1 : Int32), iv (1 : Int32)] [(.int (1 : Int32))] t → Steps p.tables e below (s₁.setTop (entryFrame m #[(.int p1)] maxLocals)) t := fun t k => pre4 t (by
        show own_S p e below s₁ m 15 #[iv p1, iv (0 : Int32), .unset, .unset, .unset, .unset, .unset] [(.int (p1 &&& (2 : Int32)))] _
        refine XS.ifYes X0.here hx rfl (pc0 := 15) (pc' := 22) rfl (hb hby at_15) rfl ((if0 _ _).trans (teq hc15_3).1) (by decide) (by decide) ?_
        show own_S p e below s₁ m 22 #[iv p1, iv (0 : Int32), .unset, .unset, .unset, .unset, .unset] [] _
        refine XS.iconst X0.here hx rfl (hb hby at_22) ?_
        show own_S p e below s₁ m 23 #[iv p1, iv (0 : Int32), .unset, .unset, .unset, .unset, .unset] [(.int (0 : Int32))] _
        refine XS.istoreN X0.here hx rfl (hb hby at_23) rfl (l' := #[iv p1, iv (0 : Int32), iv (0 : Int32), .unset, .unset, .unset, .unset]) rfl ?_
        show own_S p e below s₁ m 24 #[iv p1, iv (0 : Int32), iv (0 : Int32), .unset, .unset, .unset, .unset] [] _
        refine XS.iloadN X0.here hx rfl (hb hby at_24) rfl ?_
        show own_S p e below s₁ m 25 #[iv p1, iv (0 : Int32), iv (0 : Int32), .unset, .unset, .unset, .unset] [(.int (0 : Int32))] _
        refine XS.iloadN X0.here hx rfl (hb hby at_25) rfl ?_
        show own_S p e below s₁ m 26 #[iv p1, iv (0 : Int32), iv (0 : Int32), .unset, .unset, .unset, .unset] [(.int (0 : Int32)), (.int (0 : Int32))] _
        refine st5 _ ?_
        show own_S p e below T5 m 29 #[iv p1, iv (0 : Int32), iv (0 : Int32), .unset, .unset, .unset, .unset] [(.ref aT)] _
        refine XS.astoreN X5.here hx rfl (hb hby at_29) rfl rfl (l' := #[iv p1, iv (0 : Int32), iv (0 : Int32), rv aT, .unset, .unset, .unset]) rfl ?_
        show own_S p e below T5 m 30 #[iv p1, iv (0 : Int32), iv (0 : Int32), rv aT, .unset, .unset, .unset] [] _
        refine XS.aloadN X5.here hx rfl (hb hby at_30) rfl rfl ?_
        show own_S p e below T5 m 31 #[iv p1, iv (0 : Int32), iv (0 : Int32), rv aT, .unset, .unset, .unset] [(.ref aT)] _
        refine XS.ifnonnullYes X5.here hx rfl (pc0 := 31) (pc' := 36) rfl (hb hby at_31) rfl (by decide) (by decide) ?_
        show own_S p e below T5 m 36 #[iv p1, iv (0 : Int32), iv (0 : Int32), rv aT, .unset, .unset, .unset] [] _
        refine XS.aloadN X5.here hx rfl (hb hby at_36) rfl rfl ?_
        show own_S p e below T5 m 37 #[iv p1, iv (0 : Int32), iv (0 : Int32), rv aT, .unset, .unset, .unset] [(.ref aT)] _
        refine st6 _ ?_
        show own_S p e below T6 m 40 #[iv p1, iv (0 : Int32), iv (0 : Int32), rv aT, .unset, .unset, .unset] [(.ref aX), (.ref aT)] _
        refine Jvm.RoadKit.acmp (g := (mkF m 40 #[iv p1, iv (0 : Int32), iv (0 : Int32), rv aT, .unset, .unset, .unset] [(.ref aX), (.ref aT)])) X6 hx rfl rfl rfl (pc0 := 40) (pc' := 43) (same := false) rfl (hb hby at_40) rfl (decide_eq_false fun q => (Ne.symm neXT) (Value.ref.inj q)) (by decide) (by decide) ?_
        show own_S p e below T6 m 43 #[iv p1, iv (0 : Int32), iv (0 : Int32), rv aT, .unset, .unset, .unset] [] _
        refine XS.aloadN X6.here hx rfl (hb hby at_43) rfl rfl ?_
        show own_S p e below T6 m 44 #[iv p1, iv (0 : Int32), iv (0 : Int32), rv aT, .unset, .unset, .unset] [(.ref aT)] _
        refine st7 _ ?_
        show own_S p e below T7 m 47 #[iv p1, iv (0 : Int32), iv (0 : Int32), rv aT, .unset, .unset, .unset] [(.ref aK), (.ref aT)] _
        refine Jvm.RoadKit.acmp (g := (mkF m 47 #[iv p1, iv (0 : Int32), iv (0 : Int32), rv aT, .unset, .unset, .unset] [(.ref aK), (.ref aT)])) X7 hx rfl rfl rfl (pc0 := 47) (pc' := 54) (same := false) rfl (hb hby at_47) rfl (decide_eq_false fun q => (Ne.symm neKT) (Value.ref.inj q)) (by decide) (by decide) ?_
        show own_S p e below T7 m 54 #[iv p1, iv (0 : Int32), iv (0 : Int32), rv aT, .unset, .unset, .unset] [] _
        refine XS.iconst X7.here hx rfl (hb hby at_54) ?_
        show own_S p e below T7 m 55 #[iv p1, iv (0 : Int32), iv (0 : Int32), rv aT, .unset, .unset, .unset] [(.int (0 : Int32))] _
        refine XS.istore X7.here hx rfl (hb hby at_55) rfl (l' := #[iv p1, iv (0 : Int32), iv (0 : Int32), rv aT, iv (0 : Int32), .unset, .unset]) rfl ?_
        show own_S p e below T7 m 57 #[iv p1, iv (0 : Int32), iv (0 : Int32), rv aT, iv (0 : Int32), .unset, .unset] [] _
        refine XS.aloadN X7.here hx rfl (hb hby at_57) rfl rfl ?_
        show own_S p e below T7 m 58 #[iv p1, iv (0 : Int32), iv (0 : Int32), rv aT, iv (0 : Int32), .unset, .unset] [(.ref aT)] _
        refine st8 _ ?_
        show own_S p e below T8 m 61 #[iv p1, iv (0 : Int32), iv (0 : Int32), rv aT, iv (0 : Int32), .unset, .unset] [(.ref aX), (.ref aT)] _
        refine Jvm.RoadKit.acmp (g := (mkF m 61 #[iv p1, iv (0 : Int32), iv (0 : Int32), rv aT, iv (0 : Int32), .unset, .unset] [(.ref aX), (.ref aT)])) X8 hx rfl rfl rfl (pc0 := 61) (pc' := 64) (same := false) rfl (hb hby at_61) rfl (decide_eq_false fun q => (Ne.symm neXT) (Value.ref.inj q)) (by decide) (by decide) ?_
        show own_S p e below T8 m 64 #[iv p1, iv (0 : Int32), iv (0 : Int32), rv aT, iv (0 : Int32), .unset, .unset] [] _
        refine XS.aloadN X8.here hx rfl (hb hby at_64) rfl rfl ?_
        show own_S p e below T8 m 65 #[iv p1, iv (0 : Int32), iv (0 : Int32), rv aT, iv (0 : Int32), .unset, .unset] [(.ref aT)] _
        refine st9 _ ?_
        show own_S p e below T9 m 68 #[iv p1, iv (0 : Int32), iv (0 : Int32), rv aT, iv (0 : Int32), .unset, .unset] [(.ref aT), (.ref aT)] _
        refine Jvm.RoadKit.acmp (g := (mkF m 68 #[iv p1, iv (0 : Int32), iv (0 : Int32), rv aT, iv (0 : Int32), .unset, .unset] [(.ref aT), (.ref aT)])) X9 hx rfl rfl rfl (pc0 := 68) (pc' := 71) (same := true) rfl (hb hby at_68) rfl (decide_eq_true rfl) (by decide) (by decide) ?_
        show own_S p e below T9 m 71 #[iv p1, iv (0 : Int32), iv (0 : Int32), rv aT, iv (0 : Int32), .unset, .unset] [] _
        refine XS.iconst X9.here hx rfl (hb hby at_71) ?_
        show own_S p e below T9 m 72 #[iv p1, iv (0 : Int32), iv (0 : Int32), rv aT, iv (0 : Int32), .unset, .unset] [(.int (1 : Int32))] _
        refine XS.goto X9.here hx rfl (pc0 := 72) (pc' := 76) rfl (hb hby at_72) (by decide) (by decide) ?_
        show own_S p e below T9 m 76 #[iv p1, iv (0 : Int32), iv (0 : Int32), rv aT, iv (0 : Int32), .unset, .unset] [(.int (1 : Int32))] _
        refine XS.istore X9.here hx rfl (hb hby at_76) rfl (l' := #[iv p1, iv (0 : Int32), iv (0 : Int32), rv aT, iv (0 : Int32), iv (1 : Int32), .unset]) rfl ?_
        show own_S p e below T9 m 78 #[iv p1, iv (0 : Int32), iv (0 : Int32), rv aT, iv (0 : Int32), iv (1 : Int32), .unset] [] _
        refine XS.iloadN X9.here hx rfl (hb hby at_78) rfl ?_
        show own_S p e below T9 m 79 #[iv p1, iv (0 : Int32), iv (0 : Int32), rv aT, iv (0 : Int32), iv (1 : Int32), .unset] [(.int (0 : Int32))] _
        refine XS.ifNo X9.here hx rfl (hb hby at_79) rfl ((if0 _ _).trans (teq (by decide : (0 : Int32) = (0 : Int32))).2) ?_
        show own_S p e below T9 m 82 #[iv p1, iv (0 : Int32), iv (0 : Int32), rv aT, iv (0 : Int32), iv (1 : Int32), .unset] [] _
        refine XS.iloadN X9.here hx rfl (hb hby at_82) rfl ?_
        show own_S p e below T9 m 83 #[iv p1, iv (0 : Int32), iv (0 : Int32), rv aT, iv (0 : Int32), iv (1 : Int32), .unset] [(.int (0 : Int32))] _
        refine XS.ifNo X9.here hx rfl (hb hby at_83) rfl ((if0 _ _).trans (teq (by decide : (0 : Int32) = (0 : Int32))).2) ?_
        show own_S p e below T9 m 86 #[iv p1, iv (0 : Int32), iv (0 : Int32), rv aT, iv (0 : Int32), iv (1 : Int32), .unset] [] _
        refine XS.iconst X9.here hx rfl (hb hby at_86) ?_
        show own_S p e below T9 m 87 #[iv p1, iv (0 : Int32), iv (0 : Int32), rv aT, iv (0 : Int32), iv (1 : Int32), .unset] [(.int (1 : Int32))] _
        refine XS.goto X9.here hx rfl (pc0 := 87) (pc' := 91) rfl (hb hby at_87) (by decide) (by decide) ?_
        show own_S p e below T9 m 91 #[iv p1, iv (0 : Int32), iv (0 : Int32), rv aT, iv (0 : Int32), iv (1 : Int32), .unset] [(.int (1 : Int32))] _
        refine XS.istore X9.here hx rfl (hb hby at_91) rfl (l' := #[iv p1, iv (0 : Int32), iv (0 : Int32), rv aT, iv (0 : Int32), iv (1 : Int32), iv (1 : Int32)]) rfl ?_
        show own_S p e below T9 m 93 #[iv p1, iv (0 : Int32), iv (0 : Int32), rv aT, iv (0 : Int32), iv (1 : Int32), iv (1 : Int32)] [] _
        refine XS.iload X9.here hx rfl (hb hby at_93) rfl ?_
        show own_S p e below T9 m 95 #[iv p1, iv (0 : Int32), iv (0 : Int32), rv aT, iv (0 : Int32), iv (1 : Int32), iv (1 : Int32)] [(.int (0 : Int32))] _
        refine XS.iloadN X9.here hx rfl (hb hby at_95) rfl ?_
        show own_S p e below T9 m 96 #[iv p1, iv (0 : Int32), iv (0 : Int32), rv aT, iv (0 : Int32), iv (1 : Int32), iv (1 : Int32)] [(.int (0 : Int32)), (.int (0 : Int32))] _
        refine XS.icmpNo X9.here hx rfl (hb hby at_96) rfl (teq (by decide : (0 : Int32) = (0 : Int32))).2 ?_
        show own_S p e below T9 m 99 #[iv p1, iv (0 : Int32), iv (0 : Int32), rv aT, iv (0 : Int32), iv (1 : Int32), iv (1 : Int32)] [] _
        refine XS.iload X9.here hx rfl (hb hby at_99) rfl ?_
        show own_S p e below T9 m 101 #[iv p1, iv (0 : Int32), iv (0 : Int32), rv aT, iv (0 : Int32), iv (1 : Int32), iv (1 : Int32)] [(.int (1 : Int32))] _
        refine XS.iload X9.here hx rfl (hb hby at_101) rfl ?_
        show own_S p e below T9 m 103 #[iv p1, iv (0 : Int32), iv (0 : Int32), rv aT, iv (0 : Int32), iv (1 : Int32), iv (1 : Int32)] [(.int (1 : Int32)), (.int (1 : Int32))] _
        refine XS.icmpNo X9.here hx rfl (hb hby at_103) rfl (teq (by decide : (1 : Int32) = (1 : Int32))).2 ?_
        show own_S p e below T9 m 106 #[iv p1, iv (0 : Int32), iv (0 : Int32), rv aT, iv (0 : Int32), iv (1 : Int32), iv (1 : Int32)] [] _
        refine XS.iconst X9.here hx rfl (hb hby at_106) ?_
        show own_S p e below T9 m 107 #[iv p1, iv (0 : Int32), iv (0 : Int32), rv aT, iv (0 : Int32), iv (1 : Int32), iv (1 : Int32)] [(.int (1 : Int32))] _
        refine XS.goto X9.here hx rfl (pc0 := 107) (pc' := 111) rfl (hb hby at_107) (by decide) (by decide) ?_
        exact k)
      obtain ⟨fs, hr, hrun, hended, hW, hsame⟩ := X9.leave (v := some (.int (nar .boolean (1 : Int32)))) (fun h => by rw [Bd.returns] at h; cases h)
      refine ⟨_, _, pre10 _ ?_, hrun, hended, _, _, rfl, ?_, ⟨_, rfl⟩, hW, hsame.mono (by decide) (by decide)⟩
      · show own_S p e below T9 m 111 #[iv p1, iv (0 : Int32), iv (0 : Int32), rv aT, iv (0 : Int32), iv (1 : Int32), iv (1 : Int32)] [(.int (1 : Int32))] _
        exact retN X9 hx (t := .boolean) Bd.returns (by simp) (hb hby at_111) hr
      · show Q0 Z p1 aX aK aT h0 n0 _ T9.heap _
        rw [e9]
        exact ⟨rfl, N5⟩
    ·  -- pc 15 no
      obtain ⟨_, _, ⟨T11, L11, k11, n11⟩, -, X11, ⟨Lc11, hQ11, l11, y11, z11⟩, st11⟩ := Jvm.LawKit.callS X0 hx (y := (⟨"com/example/garter/garter/copy/OwnMoved", "of", "(ZZ)Lcom/example/garter/garter/copy/OwnMoved;"⟩ : MethodName)) hown (mvT hZ (hw _ (List.mem_of_getElem? (i := 0) rfl))) (mvT hZ (hw _ (List.mem_of_getElem? (i := 1) rfl))) (mvT hZ (hw _ (List.mem_of_getElem? (i := 2) rfl))) (mvT hZ (hw _ (List.mem_of_getElem? (i := 3) rfl))) (by decide) (backOf (W := 0) (rm1 l Z a0 hw [] (0 : Int32) (1 : Int32) aX aK aT h0 n0 Z0 S_aX S_aK S_aT) hZ (hw _ (List.mem_of_getElem? (i := 3) rfl)) (hw _ (List.mem_of_getElem? (i := 2) rfl)) (by decide) (by decide)) (g := (mkF m 26 #[iv p1, iv (0 : Int32), iv (1 : Int32), .unset, .unset, .unset, .unset] [(.int (1 : Int32)), (.int (0 : Int32))])) rfl (by rw [hml]; rfl) (argsL := [(.int (0 : Int32)), (.int (1 : Int32))]) (rest := []) (lenOf pd_0 rfl) rfl (by show 2 * 0 + _ ≤ _; exact Nat.le_of_eq rfl) (hb hby at_26) (fun _ _ => ⟨rfl, e0, (by decide : 0 + 0 ≤ _), (by decide : 0 + 0 ≤ _)⟩)
      dsimp only [Pt.U, Pt.locs, Pt.cells, Pt.slots] at X11 l11 y11 z11 st11 hQ11
      subst l11 y11 z11
      obtain ⟨hv11, N11q, e11q⟩ := hQ11
      have N11 := Fr.app N0 N11q
      rw [show own_of (0 : Int32) (1 : Int32) aX aK aT = aT from by simp [own_of]] at hv11
      subst hv11
      have e11 : T11.heap = h0 := e11q
      obtain ⟨T12, X12, e12, st12⟩ := getS2 X11 hx hZ hown (host := "") (Or.inl (hw _ (List.mem_of_getElem? (i := 6) rfl))) Via.refl e11 S_aX (g := (mkF m 37 #[iv p1, iv (0 : Int32), iv (1 : Int32), rv aT, .unset, .unset, .unset] [(.ref aT)])) rfl (hb hby at_37)
      obtain ⟨T13, X13, e13, st13⟩ := getS2 X12 hx hZ hown (host := "") (Or.inl (hw _ (List.mem_of_getElem? (i := 8) rfl))) Via.refl e12 S_aK (g := (mkF m 44 #[iv p1, iv (0 : Int32), iv (1 : Int32), rv aT, .unset, .unset, .unset] [(.ref aT)])) rfl (hb hby at_44)
      obtain ⟨T14, X14, e14, st14⟩ := getS2 X13 hx hZ hown (host := "") (Or.inl (hw _ (List.mem_of_getElem? (i := 6) rfl))) Via.refl e13 S_aX (g := (mkF m 58 #[iv p1, iv (0 : Int32), iv (1 : Int32), rv aT, iv (0 : Int32), .unset, .unset] [(.ref aT)])) rfl (hb hby at_58)
      obtain ⟨T15, X15, e15, st15⟩ := getS2 X14 hx hZ hown (host := "") (Or.inl (hw _ (List.mem_of_getElem? (i := 10) rfl))) Via.refl e14 S_aT (g := (mkF m 65 #[iv p1, iv (0 : Int32), iv (1 : Int32), rv aT, iv (0 : Int32), .unset, .unset] [(.ref aT)])) rfl (hb hby at_65)
      have pre16 : ∀ t, own_S p e below T15 m 111 #[iv p1, iv (0 : Int32), iv (1 : Int32), rv aT, iv (0 : Int32), iv (1 : Int32), iv (1 : Int32)] [(.int (1 : Int32))] t → Steps p.tables e below (s₁.setTop (entryFrame m #[(.int p1)] maxLocals)) t := fun t k => pre4 t (by
        show own_S p e below s₁ m 15 #[iv p1, iv (0 : Int32), .unset, .unset, .unset, .unset, .unset] [(.int (p1 &&& (2 : Int32)))] _
        refine XS.ifNo X0.here hx rfl (hb hby at_15) rfl ((if0 _ _).trans (feq hc15_3).1) ?_
        show own_S p e below s₁ m 18 #[iv p1, iv (0 : Int32), .unset, .unset, .unset, .unset, .unset] [] _
        refine XS.iconst X0.here hx rfl (hb hby at_18) ?_
        show own_S p e below s₁ m 19 #[iv p1, iv (0 : Int32), .unset, .unset, .unset, .unset, .unset] [(.int (1 : Int32))] _
        refine XS.goto X0.here hx rfl (pc0 := 19) (pc' := 23) rfl (hb hby at_19) (by decide) (by decide) ?_
        show own_S p e below s₁ m 23 #[iv p1, iv (0 : Int32), .unset, .unset, .unset, .unset, .unset] [(.int (1 : Int32))] _
        refine XS.istoreN X0.here hx rfl (hb hby at_23) rfl (l' := #[iv p1, iv (0 : Int32), iv (1 : Int32), .unset, .unset, .unset, .unset]) rfl ?_
        show own_S p e below s₁ m 24 #[iv p1, iv (0 : Int32), iv (1 : Int32), .unset, .unset, .unset, .unset] [] _
        refine XS.iloadN X0.here hx rfl (hb hby at_24) rfl ?_
        show own_S p e below s₁ m 25 #[iv p1, iv (0 : Int32), iv (1 : Int32), .unset, .unset, .unset, .unset] [(.int (0 : Int32))] _
        refine XS.iloadN X0.here hx rfl (hb hby at_25) rfl ?_
        show own_S p e below s₁ m 26 #[iv p1, iv (0 : Int32), iv (1 : Int32), .unset, .unset, .unset, .unset] [(.int (1 : Int32)), (.int (0 : Int32))] _
        refine st11 _ ?_
        show own_S p e below T11 m 29 #[iv p1, iv (0 : Int32), iv (1 : Int32), .unset, .unset, .unset, .unset] [(.ref aT)] _
        refine XS.astoreN X11.here hx rfl (hb hby at_29) rfl rfl (l' := #[iv p1, iv (0 : Int32), iv (1 : Int32), rv aT, .unset, .unset, .unset]) rfl ?_
        show own_S p e below T11 m 30 #[iv p1, iv (0 : Int32), iv (1 : Int32), rv aT, .unset, .unset, .unset] [] _
        refine XS.aloadN X11.here hx rfl (hb hby at_30) rfl rfl ?_
        show own_S p e below T11 m 31 #[iv p1, iv (0 : Int32), iv (1 : Int32), rv aT, .unset, .unset, .unset] [(.ref aT)] _
        refine XS.ifnonnullYes X11.here hx rfl (pc0 := 31) (pc' := 36) rfl (hb hby at_31) rfl (by decide) (by decide) ?_
        show own_S p e below T11 m 36 #[iv p1, iv (0 : Int32), iv (1 : Int32), rv aT, .unset, .unset, .unset] [] _
        refine XS.aloadN X11.here hx rfl (hb hby at_36) rfl rfl ?_
        show own_S p e below T11 m 37 #[iv p1, iv (0 : Int32), iv (1 : Int32), rv aT, .unset, .unset, .unset] [(.ref aT)] _
        refine st12 _ ?_
        show own_S p e below T12 m 40 #[iv p1, iv (0 : Int32), iv (1 : Int32), rv aT, .unset, .unset, .unset] [(.ref aX), (.ref aT)] _
        refine Jvm.RoadKit.acmp (g := (mkF m 40 #[iv p1, iv (0 : Int32), iv (1 : Int32), rv aT, .unset, .unset, .unset] [(.ref aX), (.ref aT)])) X12 hx rfl rfl rfl (pc0 := 40) (pc' := 43) (same := false) rfl (hb hby at_40) rfl (decide_eq_false fun q => (Ne.symm neXT) (Value.ref.inj q)) (by decide) (by decide) ?_
        show own_S p e below T12 m 43 #[iv p1, iv (0 : Int32), iv (1 : Int32), rv aT, .unset, .unset, .unset] [] _
        refine XS.aloadN X12.here hx rfl (hb hby at_43) rfl rfl ?_
        show own_S p e below T12 m 44 #[iv p1, iv (0 : Int32), iv (1 : Int32), rv aT, .unset, .unset, .unset] [(.ref aT)] _
        refine st13 _ ?_
        show own_S p e below T13 m 47 #[iv p1, iv (0 : Int32), iv (1 : Int32), rv aT, .unset, .unset, .unset] [(.ref aK), (.ref aT)] _
        refine Jvm.RoadKit.acmp (g := (mkF m 47 #[iv p1, iv (0 : Int32), iv (1 : Int32), rv aT, .unset, .unset, .unset] [(.ref aK), (.ref aT)])) X13 hx rfl rfl rfl (pc0 := 47) (pc' := 54) (same := false) rfl (hb hby at_47) rfl (decide_eq_false fun q => (Ne.symm neKT) (Value.ref.inj q)) (by decide) (by decide) ?_
        show own_S p e below T13 m 54 #[iv p1, iv (0 : Int32), iv (1 : Int32), rv aT, .unset, .unset, .unset] [] _
        refine XS.iconst X13.here hx rfl (hb hby at_54) ?_
        show own_S p e below T13 m 55 #[iv p1, iv (0 : Int32), iv (1 : Int32), rv aT, .unset, .unset, .unset] [(.int (0 : Int32))] _
        refine XS.istore X13.here hx rfl (hb hby at_55) rfl (l' := #[iv p1, iv (0 : Int32), iv (1 : Int32), rv aT, iv (0 : Int32), .unset, .unset]) rfl ?_
        show own_S p e below T13 m 57 #[iv p1, iv (0 : Int32), iv (1 : Int32), rv aT, iv (0 : Int32), .unset, .unset] [] _
        refine XS.aloadN X13.here hx rfl (hb hby at_57) rfl rfl ?_
        show own_S p e below T13 m 58 #[iv p1, iv (0 : Int32), iv (1 : Int32), rv aT, iv (0 : Int32), .unset, .unset] [(.ref aT)] _
        refine st14 _ ?_
        show own_S p e below T14 m 61 #[iv p1, iv (0 : Int32), iv (1 : Int32), rv aT, iv (0 : Int32), .unset, .unset] [(.ref aX), (.ref aT)] _
        refine Jvm.RoadKit.acmp (g := (mkF m 61 #[iv p1, iv (0 : Int32), iv (1 : Int32), rv aT, iv (0 : Int32), .unset, .unset] [(.ref aX), (.ref aT)])) X14 hx rfl rfl rfl (pc0 := 61) (pc' := 64) (same := false) rfl (hb hby at_61) rfl (decide_eq_false fun q => (Ne.symm neXT) (Value.ref.inj q)) (by decide) (by decide) ?_
        show own_S p e below T14 m 64 #[iv p1, iv (0 : Int32), iv (1 : Int32), rv aT, iv (0 : Int32), .unset, .unset] [] _
        refine XS.aloadN X14.here hx rfl (hb hby at_64) rfl rfl ?_
        show own_S p e below T14 m 65 #[iv p1, iv (0 : Int32), iv (1 : Int32), rv aT, iv (0 : Int32), .unset, .unset] [(.ref aT)] _
        refine st15 _ ?_
        show own_S p e below T15 m 68 #[iv p1, iv (0 : Int32), iv (1 : Int32), rv aT, iv (0 : Int32), .unset, .unset] [(.ref aT), (.ref aT)] _
        refine Jvm.RoadKit.acmp (g := (mkF m 68 #[iv p1, iv (0 : Int32), iv (1 : Int32), rv aT, iv (0 : Int32), .unset, .unset] [(.ref aT), (.ref aT)])) X15 hx rfl rfl rfl (pc0 := 68) (pc' := 71) (same := true) rfl (hb hby at_68) rfl (decide_eq_true rfl) (by decide) (by decide) ?_
        show own_S p e below T15 m 71 #[iv p1, iv (0 : Int32), iv (1 : Int32), rv aT, iv (0 : Int32), .unset, .unset] [] _
        refine XS.iconst X15.here hx rfl (hb hby at_71) ?_
        show own_S p e below T15 m 72 #[iv p1, iv (0 : Int32), iv (1 : Int32), rv aT, iv (0 : Int32), .unset, .unset] [(.int (1 : Int32))] _
        refine XS.goto X15.here hx rfl (pc0 := 72) (pc' := 76) rfl (hb hby at_72) (by decide) (by decide) ?_
        show own_S p e below T15 m 76 #[iv p1, iv (0 : Int32), iv (1 : Int32), rv aT, iv (0 : Int32), .unset, .unset] [(.int (1 : Int32))] _
        refine XS.istore X15.here hx rfl (hb hby at_76) rfl (l' := #[iv p1, iv (0 : Int32), iv (1 : Int32), rv aT, iv (0 : Int32), iv (1 : Int32), .unset]) rfl ?_
        show own_S p e below T15 m 78 #[iv p1, iv (0 : Int32), iv (1 : Int32), rv aT, iv (0 : Int32), iv (1 : Int32), .unset] [] _
        refine XS.iloadN X15.here hx rfl (hb hby at_78) rfl ?_
        show own_S p e below T15 m 79 #[iv p1, iv (0 : Int32), iv (1 : Int32), rv aT, iv (0 : Int32), iv (1 : Int32), .unset] [(.int (1 : Int32))] _
        refine XS.ifYes X15.here hx rfl (pc0 := 79) (pc' := 86) rfl (hb hby at_79) rfl ((if0 _ _).trans (feq (by decide : ¬ ((1 : Int32) = (0 : Int32)))).2) (by decide) (by decide) ?_
        show own_S p e below T15 m 86 #[iv p1, iv (0 : Int32), iv (1 : Int32), rv aT, iv (0 : Int32), iv (1 : Int32), .unset] [] _
        refine XS.iconst X15.here hx rfl (hb hby at_86) ?_
        show own_S p e below T15 m 87 #[iv p1, iv (0 : Int32), iv (1 : Int32), rv aT, iv (0 : Int32), iv (1 : Int32), .unset] [(.int (1 : Int32))] _
        refine XS.goto X15.here hx rfl (pc0 := 87) (pc' := 91) rfl (hb hby at_87) (by decide) (by decide) ?_
        show own_S p e below T15 m 91 #[iv p1, iv (0 : Int32), iv (1 : Int32), rv aT, iv (0 : Int32), iv (1 : Int32), .unset] [(.int (1 : Int32))] _
        refine XS.istore X15.here hx rfl (hb hby at_91) rfl (l' := #[iv p1, iv (0 : Int32), iv (1 : Int32), rv aT, iv (0 : Int32), iv (1 : Int32), iv (1 : Int32)]) rfl ?_
        show own_S p e below T15 m 93 #[iv p1, iv (0 : Int32), iv (1 : Int32), rv aT, iv (0 : Int32), iv (1 : Int32), iv (1 : Int32)] [] _
        refine XS.iload X15.here hx rfl (hb hby at_93) rfl ?_
        show own_S p e below T15 m 95 #[iv p1, iv (0 : Int32), iv (1 : Int32), rv aT, iv (0 : Int32), iv (1 : Int32), iv (1 : Int32)] [(.int (0 : Int32))] _
        refine XS.iloadN X15.here hx rfl (hb hby at_95) rfl ?_
        show own_S p e below T15 m 96 #[iv p1, iv (0 : Int32), iv (1 : Int32), rv aT, iv (0 : Int32), iv (1 : Int32), iv (1 : Int32)] [(.int (0 : Int32)), (.int (0 : Int32))] _
        refine XS.icmpNo X15.here hx rfl (hb hby at_96) rfl (teq (by decide : (0 : Int32) = (0 : Int32))).2 ?_
        show own_S p e below T15 m 99 #[iv p1, iv (0 : Int32), iv (1 : Int32), rv aT, iv (0 : Int32), iv (1 : Int32), iv (1 : Int32)] [] _
        refine XS.iload X15.here hx rfl (hb hby at_99) rfl ?_
        show own_S p e below T15 m 101 #[iv p1, iv (0 : Int32), iv (1 : Int32), rv aT, iv (0 : Int32), iv (1 : Int32), iv (1 : Int32)] [(.int (1 : Int32))] _
        refine XS.iload X15.here hx rfl (hb hby at_101) rfl ?_
        show own_S p e below T15 m 103 #[iv p1, iv (0 : Int32), iv (1 : Int32), rv aT, iv (0 : Int32), iv (1 : Int32), iv (1 : Int32)] [(.int (1 : Int32)), (.int (1 : Int32))] _
        refine XS.icmpNo X15.here hx rfl (hb hby at_103) rfl (teq (by decide : (1 : Int32) = (1 : Int32))).2 ?_
        show own_S p e below T15 m 106 #[iv p1, iv (0 : Int32), iv (1 : Int32), rv aT, iv (0 : Int32), iv (1 : Int32), iv (1 : Int32)] [] _
        refine XS.iconst X15.here hx rfl (hb hby at_106) ?_
        show own_S p e below T15 m 107 #[iv p1, iv (0 : Int32), iv (1 : Int32), rv aT, iv (0 : Int32), iv (1 : Int32), iv (1 : Int32)] [(.int (1 : Int32))] _
        refine XS.goto X15.here hx rfl (pc0 := 107) (pc' := 111) rfl (hb hby at_107) (by decide) (by decide) ?_
        exact k)
      obtain ⟨fs, hr, hrun, hended, hW, hsame⟩ := X15.leave (v := some (.int (nar .boolean (1 : Int32)))) (fun h => by rw [Bd.returns] at h; cases h)
      refine ⟨_, _, pre16 _ ?_, hrun, hended, _, _, rfl, ?_, ⟨_, rfl⟩, hW, hsame.mono (by decide) (by decide)⟩
      · show own_S p e below T15 m 111 #[iv p1, iv (0 : Int32), iv (1 : Int32), rv aT, iv (0 : Int32), iv (1 : Int32), iv (1 : Int32)] [(.int (1 : Int32))] _
        exact retN X15 hx (t := .boolean) Bd.returns (by simp) (hb hby at_111) hr
      · show Q0 Z p1 aX aK aT h0 n0 _ T15.heap _
        rw [e15]
        exact ⟨rfl, N11⟩
  ·  -- pc 3 no
    have pre18 : ∀ t, own_S p e below s₁ m 15 #[iv p1, iv (1 : Int32), .unset, .unset, .unset, .unset, .unset] [(.int (p1 &&& (2 : Int32)))] t → Steps p.tables e below (s₁.setTop (entryFrame m #[(.int p1)] maxLocals)) t := fun t k => pre2 t (by
      show own_S p e below s₁ m 3 #[iv p1, .unset, .unset, .unset, .unset, .unset, .unset] [(.int (p1 &&& (1 : Int32)))] _
      refine XS.ifNo X0.here hx rfl (hb hby at_3) rfl ((if0 _ _).trans (feq hc3_1).1) ?_
      show own_S p e below s₁ m 6 #[iv p1, .unset, .unset, .unset, .unset, .unset, .unset] [] _
      refine XS.iconst X0.here hx rfl (hb hby at_6) ?_
      show own_S p e below s₁ m 7 #[iv p1, .unset, .unset, .unset, .unset, .unset, .unset] [(.int (1 : Int32))] _
      refine XS.goto X0.here hx rfl (pc0 := 7) (pc' := 11) rfl (hb hby at_7) (by decide) (by decide) ?_
      show own_S p e below s₁ m 11 #[iv p1, .unset, .unset, .unset, .unset, .unset, .unset] [(.int (1 : Int32))] _
      refine XS.istoreN X0.here hx rfl (hb hby at_11) rfl (l' := #[iv p1, iv (1 : Int32), .unset, .unset, .unset, .unset, .unset]) rfl ?_
      show own_S p e below s₁ m 12 #[iv p1, iv (1 : Int32), .unset, .unset, .unset, .unset, .unset] [] _
      refine XS.iloadN X0.here hx rfl (hb hby at_12) rfl ?_
      show own_S p e below s₁ m 13 #[iv p1, iv (1 : Int32), .unset, .unset, .unset, .unset, .unset] [(.int p1)] _
      refine XS.iconst X0.here hx rfl (hb hby at_13) ?_
      show own_S p e below s₁ m 14 #[iv p1, iv (1 : Int32), .unset, .unset, .unset, .unset, .unset] [(.int (2 : Int32)), (.int p1)] _
      refine XS.iand X0.here hx rfl (hb hby at_14) rfl ?_
      exact k)
    by_cases hc15_17 : (p1 &&& (2 : Int32)) = (0 : Int32)
    ·  -- pc 15 yes
      obtain ⟨_, _, ⟨T19, L19, k19, n19⟩, -, X19, ⟨Lc19, hQ19, l19, y19, z19⟩, st19⟩ := Jvm.LawKit.callS X0 hx (y := (⟨"com/example/garter/garter/copy/OwnMoved", "of", "(ZZ)Lcom/example/garter/garter/copy/OwnMoved;"⟩ : MethodName)) hown (mvT hZ (hw _ (List.mem_of_getElem? (i := 0) rfl))) (mvT hZ (hw _ (List.mem_of_getElem? (i := 1) rfl))) (mvT hZ (hw _ (List.mem_of_getElem? (i := 2) rfl))) (mvT hZ (hw _ (List.mem_of_getElem? (i := 3) rfl))) (by decide) (backOf (W := 0) (rm1 l Z a0 hw [] (1 : Int32) (0 : Int32) aX aK aT h0 n0 Z0 S_aX S_aK S_aT) hZ (hw _ (List.mem_of_getElem? (i := 3) rfl)) (hw _ (List.mem_of_getElem? (i := 2) rfl)) (by decide) (by decide)) (g := (mkF m 26 #[iv p1, iv (1 : Int32), iv (0 : Int32), .unset, .unset, .unset, .unset] [(.int (0 : Int32)), (.int (1 : Int32))])) rfl (by rw [hml]; rfl) (argsL := [(.int (1 : Int32)), (.int (0 : Int32))]) (rest := []) (lenOf pd_0 rfl) rfl (by show 2 * 0 + _ ≤ _; exact Nat.le_of_eq rfl) (hb hby at_26) (fun _ _ => ⟨rfl, e0, (by decide : 0 + 0 ≤ _), (by decide : 0 + 0 ≤ _)⟩)
      dsimp only [Pt.U, Pt.locs, Pt.cells, Pt.slots] at X19 l19 y19 z19 st19 hQ19
      subst l19 y19 z19
      obtain ⟨hv19, N19q, e19q⟩ := hQ19
      have N19 := Fr.app N0 N19q
      rw [show own_of (1 : Int32) (0 : Int32) aX aK aT = aK from by simp [own_of]] at hv19
      subst hv19
      have e19 : T19.heap = h0 := e19q
      obtain ⟨T20, X20, e20, st20⟩ := getS2 X19 hx hZ hown (host := "") (Or.inl (hw _ (List.mem_of_getElem? (i := 6) rfl))) Via.refl e19 S_aX (g := (mkF m 37 #[iv p1, iv (1 : Int32), iv (0 : Int32), rv aK, .unset, .unset, .unset] [(.ref aK)])) rfl (hb hby at_37)
      obtain ⟨T21, X21, e21, st21⟩ := getS2 X20 hx hZ hown (host := "") (Or.inl (hw _ (List.mem_of_getElem? (i := 8) rfl))) Via.refl e20 S_aK (g := (mkF m 44 #[iv p1, iv (1 : Int32), iv (0 : Int32), rv aK, .unset, .unset, .unset] [(.ref aK)])) rfl (hb hby at_44)
      obtain ⟨T22, X22, e22, st22⟩ := getS2 X21 hx hZ hown (host := "") (Or.inl (hw _ (List.mem_of_getElem? (i := 6) rfl))) Via.refl e21 S_aX (g := (mkF m 58 #[iv p1, iv (1 : Int32), iv (0 : Int32), rv aK, iv (1 : Int32), .unset, .unset] [(.ref aK)])) rfl (hb hby at_58)
      obtain ⟨T23, X23, e23, st23⟩ := getS2 X22 hx hZ hown (host := "") (Or.inl (hw _ (List.mem_of_getElem? (i := 10) rfl))) Via.refl e22 S_aT (g := (mkF m 65 #[iv p1, iv (1 : Int32), iv (0 : Int32), rv aK, iv (1 : Int32), .unset, .unset] [(.ref aK)])) rfl (hb hby at_65)
      have pre24 : ∀ t, own_S p e below T23 m 111 #[iv p1, iv (1 : Int32), iv (0 : Int32), rv aK, iv (1 : Int32), iv (0 : Int32), iv (0 : Int32)] [(.int (1 : Int32))] t → Steps p.tables e below (s₁.setTop (entryFrame m #[(.int p1)] maxLocals)) t := fun t k => pre18 t (by
        show own_S p e below s₁ m 15 #[iv p1, iv (1 : Int32), .unset, .unset, .unset, .unset, .unset] [(.int (p1 &&& (2 : Int32)))] _
        refine XS.ifYes X0.here hx rfl (pc0 := 15) (pc' := 22) rfl (hb hby at_15) rfl ((if0 _ _).trans (teq hc15_17).1) (by decide) (by decide) ?_
        show own_S p e below s₁ m 22 #[iv p1, iv (1 : Int32), .unset, .unset, .unset, .unset, .unset] [] _
        refine XS.iconst X0.here hx rfl (hb hby at_22) ?_
        show own_S p e below s₁ m 23 #[iv p1, iv (1 : Int32), .unset, .unset, .unset, .unset, .unset] [(.int (0 : Int32))] _
        refine XS.istoreN X0.here hx rfl (hb hby at_23) rfl (l' := #[iv p1, iv (1 : Int32), iv (0 : Int32), .unset, .unset, .unset, .unset]) rfl ?_
        show own_S p e below s₁ m 24 #[iv p1, iv (1 : Int32), iv (0 : Int32), .unset, .unset, .unset, .unset] [] _
        refine XS.iloadN X0.here hx rfl (hb hby at_24) rfl ?_
        show own_S p e below s₁ m 25 #[iv p1, iv (1 : Int32), iv (0 : Int32), .unset, .unset, .unset, .unset] [(.int (1 : Int32))] _
        refine XS.iloadN X0.here hx rfl (hb hby at_25) rfl ?_
        show own_S p e below s₁ m 26 #[iv p1, iv (1 : Int32), iv (0 : Int32), .unset, .unset, .unset, .unset] [(.int (0 : Int32)), (.int (1 : Int32))] _
        refine st19 _ ?_
        show own_S p e below T19 m 29 #[iv p1, iv (1 : Int32), iv (0 : Int32), .unset, .unset, .unset, .unset] [(.ref aK)] _
        refine XS.astoreN X19.here hx rfl (hb hby at_29) rfl rfl (l' := #[iv p1, iv (1 : Int32), iv (0 : Int32), rv aK, .unset, .unset, .unset]) rfl ?_
        show own_S p e below T19 m 30 #[iv p1, iv (1 : Int32), iv (0 : Int32), rv aK, .unset, .unset, .unset] [] _
        refine XS.aloadN X19.here hx rfl (hb hby at_30) rfl rfl ?_
        show own_S p e below T19 m 31 #[iv p1, iv (1 : Int32), iv (0 : Int32), rv aK, .unset, .unset, .unset] [(.ref aK)] _
        refine XS.ifnonnullYes X19.here hx rfl (pc0 := 31) (pc' := 36) rfl (hb hby at_31) rfl (by decide) (by decide) ?_
        show own_S p e below T19 m 36 #[iv p1, iv (1 : Int32), iv (0 : Int32), rv aK, .unset, .unset, .unset] [] _
        refine XS.aloadN X19.here hx rfl (hb hby at_36) rfl rfl ?_
        show own_S p e below T19 m 37 #[iv p1, iv (1 : Int32), iv (0 : Int32), rv aK, .unset, .unset, .unset] [(.ref aK)] _
        refine st20 _ ?_
        show own_S p e below T20 m 40 #[iv p1, iv (1 : Int32), iv (0 : Int32), rv aK, .unset, .unset, .unset] [(.ref aX), (.ref aK)] _
        refine Jvm.RoadKit.acmp (g := (mkF m 40 #[iv p1, iv (1 : Int32), iv (0 : Int32), rv aK, .unset, .unset, .unset] [(.ref aX), (.ref aK)])) X20 hx rfl rfl rfl (pc0 := 40) (pc' := 43) (same := false) rfl (hb hby at_40) rfl (decide_eq_false fun q => (Ne.symm neXK) (Value.ref.inj q)) (by decide) (by decide) ?_
        show own_S p e below T20 m 43 #[iv p1, iv (1 : Int32), iv (0 : Int32), rv aK, .unset, .unset, .unset] [] _
        refine XS.aloadN X20.here hx rfl (hb hby at_43) rfl rfl ?_
        show own_S p e below T20 m 44 #[iv p1, iv (1 : Int32), iv (0 : Int32), rv aK, .unset, .unset, .unset] [(.ref aK)] _
        refine st21 _ ?_
        show own_S p e below T21 m 47 #[iv p1, iv (1 : Int32), iv (0 : Int32), rv aK, .unset, .unset, .unset] [(.ref aK), (.ref aK)] _
        refine Jvm.RoadKit.acmp (g := (mkF m 47 #[iv p1, iv (1 : Int32), iv (0 : Int32), rv aK, .unset, .unset, .unset] [(.ref aK), (.ref aK)])) X21 hx rfl rfl rfl (pc0 := 47) (pc' := 50) (same := true) rfl (hb hby at_47) rfl (decide_eq_true rfl) (by decide) (by decide) ?_
        show own_S p e below T21 m 50 #[iv p1, iv (1 : Int32), iv (0 : Int32), rv aK, .unset, .unset, .unset] [] _
        refine XS.iconst X21.here hx rfl (hb hby at_50) ?_
        show own_S p e below T21 m 51 #[iv p1, iv (1 : Int32), iv (0 : Int32), rv aK, .unset, .unset, .unset] [(.int (1 : Int32))] _
        refine XS.goto X21.here hx rfl (pc0 := 51) (pc' := 55) rfl (hb hby at_51) (by decide) (by decide) ?_
        show own_S p e below T21 m 55 #[iv p1, iv (1 : Int32), iv (0 : Int32), rv aK, .unset, .unset, .unset] [(.int (1 : Int32))] _
        refine XS.istore X21.here hx rfl (hb hby at_55) rfl (l' := #[iv p1, iv (1 : Int32), iv (0 : Int32), rv aK, iv (1 : Int32), .unset, .unset]) rfl ?_
        show own_S p e below T21 m 57 #[iv p1, iv (1 : Int32), iv (0 : Int32), rv aK, iv (1 : Int32), .unset, .unset] [] _
        refine XS.aloadN X21.here hx rfl (hb hby at_57) rfl rfl ?_
        show own_S p e below T21 m 58 #[iv p1, iv (1 : Int32), iv (0 : Int32), rv aK, iv (1 : Int32), .unset, .unset] [(.ref aK)] _
        refine st22 _ ?_
        show own_S p e below T22 m 61 #[iv p1, iv (1 : Int32), iv (0 : Int32), rv aK, iv (1 : Int32), .unset, .unset] [(.ref aX), (.ref aK)] _
        refine Jvm.RoadKit.acmp (g := (mkF m 61 #[iv p1, iv (1 : Int32), iv (0 : Int32), rv aK, iv (1 : Int32), .unset, .unset] [(.ref aX), (.ref aK)])) X22 hx rfl rfl rfl (pc0 := 61) (pc' := 64) (same := false) rfl (hb hby at_61) rfl (decide_eq_false fun q => (Ne.symm neXK) (Value.ref.inj q)) (by decide) (by decide) ?_
        show own_S p e below T22 m 64 #[iv p1, iv (1 : Int32), iv (0 : Int32), rv aK, iv (1 : Int32), .unset, .unset] [] _
        refine XS.aloadN X22.here hx rfl (hb hby at_64) rfl rfl ?_
        show own_S p e below T22 m 65 #[iv p1, iv (1 : Int32), iv (0 : Int32), rv aK, iv (1 : Int32), .unset, .unset] [(.ref aK)] _
        refine st23 _ ?_
        show own_S p e below T23 m 68 #[iv p1, iv (1 : Int32), iv (0 : Int32), rv aK, iv (1 : Int32), .unset, .unset] [(.ref aT), (.ref aK)] _
        refine Jvm.RoadKit.acmp (g := (mkF m 68 #[iv p1, iv (1 : Int32), iv (0 : Int32), rv aK, iv (1 : Int32), .unset, .unset] [(.ref aT), (.ref aK)])) X23 hx rfl rfl rfl (pc0 := 68) (pc' := 75) (same := false) rfl (hb hby at_68) rfl (decide_eq_false fun q => neKT (Value.ref.inj q)) (by decide) (by decide) ?_
        show own_S p e below T23 m 75 #[iv p1, iv (1 : Int32), iv (0 : Int32), rv aK, iv (1 : Int32), .unset, .unset] [] _
        refine XS.iconst X23.here hx rfl (hb hby at_75) ?_
        show own_S p e below T23 m 76 #[iv p1, iv (1 : Int32), iv (0 : Int32), rv aK, iv (1 : Int32), .unset, .unset] [(.int (0 : Int32))] _
        refine XS.istore X23.here hx rfl (hb hby at_76) rfl (l' := #[iv p1, iv (1 : Int32), iv (0 : Int32), rv aK, iv (1 : Int32), iv (0 : Int32), .unset]) rfl ?_
        show own_S p e below T23 m 78 #[iv p1, iv (1 : Int32), iv (0 : Int32), rv aK, iv (1 : Int32), iv (0 : Int32), .unset] [] _
        refine XS.iloadN X23.here hx rfl (hb hby at_78) rfl ?_
        show own_S p e below T23 m 79 #[iv p1, iv (1 : Int32), iv (0 : Int32), rv aK, iv (1 : Int32), iv (0 : Int32), .unset] [(.int (0 : Int32))] _
        refine XS.ifNo X23.here hx rfl (hb hby at_79) rfl ((if0 _ _).trans (teq (by decide : (0 : Int32) = (0 : Int32))).2) ?_
        show own_S p e below T23 m 82 #[iv p1, iv (1 : Int32), iv (0 : Int32), rv aK, iv (1 : Int32), iv (0 : Int32), .unset] [] _
        refine XS.iloadN X23.here hx rfl (hb hby at_82) rfl ?_
        show own_S p e below T23 m 83 #[iv p1, iv (1 : Int32), iv (0 : Int32), rv aK, iv (1 : Int32), iv (0 : Int32), .unset] [(.int (1 : Int32))] _
        refine XS.ifYes X23.here hx rfl (pc0 := 83) (pc' := 90) rfl (hb hby at_83) rfl ((if0 _ _).trans (feq (by decide : ¬ ((1 : Int32) = (0 : Int32)))).2) (by decide) (by decide) ?_
        show own_S p e below T23 m 90 #[iv p1, iv (1 : Int32), iv (0 : Int32), rv aK, iv (1 : Int32), iv (0 : Int32), .unset] [] _
        refine XS.iconst X23.here hx rfl (hb hby at_90) ?_
        show own_S p e below T23 m 91 #[iv p1, iv (1 : Int32), iv (0 : Int32), rv aK, iv (1 : Int32), iv (0 : Int32), .unset] [(.int (0 : Int32))] _
        refine XS.istore X23.here hx rfl (hb hby at_91) rfl (l' := #[iv p1, iv (1 : Int32), iv (0 : Int32), rv aK, iv (1 : Int32), iv (0 : Int32), iv (0 : Int32)]) rfl ?_
        show own_S p e below T23 m 93 #[iv p1, iv (1 : Int32), iv (0 : Int32), rv aK, iv (1 : Int32), iv (0 : Int32), iv (0 : Int32)] [] _
        refine XS.iload X23.here hx rfl (hb hby at_93) rfl ?_
        show own_S p e below T23 m 95 #[iv p1, iv (1 : Int32), iv (0 : Int32), rv aK, iv (1 : Int32), iv (0 : Int32), iv (0 : Int32)] [(.int (1 : Int32))] _
        refine XS.iloadN X23.here hx rfl (hb hby at_95) rfl ?_
        show own_S p e below T23 m 96 #[iv p1, iv (1 : Int32), iv (0 : Int32), rv aK, iv (1 : Int32), iv (0 : Int32), iv (0 : Int32)] [(.int (1 : Int32)), (.int (1 : Int32))] _
        refine XS.icmpNo X23.here hx rfl (hb hby at_96) rfl (teq (by decide : (1 : Int32) = (1 : Int32))).2 ?_
        show own_S p e below T23 m 99 #[iv p1, iv (1 : Int32), iv (0 : Int32), rv aK, iv (1 : Int32), iv (0 : Int32), iv (0 : Int32)] [] _
        refine XS.iload X23.here hx rfl (hb hby at_99) rfl ?_
        show own_S p e below T23 m 101 #[iv p1, iv (1 : Int32), iv (0 : Int32), rv aK, iv (1 : Int32), iv (0 : Int32), iv (0 : Int32)] [(.int (0 : Int32))] _
        refine XS.iload X23.here hx rfl (hb hby at_101) rfl ?_
        show own_S p e below T23 m 103 #[iv p1, iv (1 : Int32), iv (0 : Int32), rv aK, iv (1 : Int32), iv (0 : Int32), iv (0 : Int32)] [(.int (0 : Int32)), (.int (0 : Int32))] _
        refine XS.icmpNo X23.here hx rfl (hb hby at_103) rfl (teq (by decide : (0 : Int32) = (0 : Int32))).2 ?_
        show own_S p e below T23 m 106 #[iv p1, iv (1 : Int32), iv (0 : Int32), rv aK, iv (1 : Int32), iv (0 : Int32), iv (0 : Int32)] [] _
        refine XS.iconst X23.here hx rfl (hb hby at_106) ?_
        show own_S p e below T23 m 107 #[iv p1, iv (1 : Int32), iv (0 : Int32), rv aK, iv (1 : Int32), iv (0 : Int32), iv (0 : Int32)] [(.int (1 : Int32))] _
        refine XS.goto X23.here hx rfl (pc0 := 107) (pc' := 111) rfl (hb hby at_107) (by decide) (by decide) ?_
        exact k)
      obtain ⟨fs, hr, hrun, hended, hW, hsame⟩ := X23.leave (v := some (.int (nar .boolean (1 : Int32)))) (fun h => by rw [Bd.returns] at h; cases h)
      refine ⟨_, _, pre24 _ ?_, hrun, hended, _, _, rfl, ?_, ⟨_, rfl⟩, hW, hsame.mono (by decide) (by decide)⟩
      · show own_S p e below T23 m 111 #[iv p1, iv (1 : Int32), iv (0 : Int32), rv aK, iv (1 : Int32), iv (0 : Int32), iv (0 : Int32)] [(.int (1 : Int32))] _
        exact retN X23 hx (t := .boolean) Bd.returns (by simp) (hb hby at_111) hr
      · show Q0 Z p1 aX aK aT h0 n0 _ T23.heap _
        rw [e23]
        exact ⟨rfl, N19⟩
    ·  -- pc 15 no
      obtain ⟨_, _, ⟨T25, L25, k25, n25⟩, -, X25, ⟨Lc25, hQ25, l25, y25, z25⟩, st25⟩ := Jvm.LawKit.callS X0 hx (y := (⟨"com/example/garter/garter/copy/OwnMoved", "of", "(ZZ)Lcom/example/garter/garter/copy/OwnMoved;"⟩ : MethodName)) hown (mvT hZ (hw _ (List.mem_of_getElem? (i := 0) rfl))) (mvT hZ (hw _ (List.mem_of_getElem? (i := 1) rfl))) (mvT hZ (hw _ (List.mem_of_getElem? (i := 2) rfl))) (mvT hZ (hw _ (List.mem_of_getElem? (i := 3) rfl))) (by decide) (backOf (W := 0) (rm1 l Z a0 hw [] (1 : Int32) (1 : Int32) aX aK aT h0 n0 Z0 S_aX S_aK S_aT) hZ (hw _ (List.mem_of_getElem? (i := 3) rfl)) (hw _ (List.mem_of_getElem? (i := 2) rfl)) (by decide) (by decide)) (g := (mkF m 26 #[iv p1, iv (1 : Int32), iv (1 : Int32), .unset, .unset, .unset, .unset] [(.int (1 : Int32)), (.int (1 : Int32))])) rfl (by rw [hml]; rfl) (argsL := [(.int (1 : Int32)), (.int (1 : Int32))]) (rest := []) (lenOf pd_0 rfl) rfl (by show 2 * 0 + _ ≤ _; exact Nat.le_of_eq rfl) (hb hby at_26) (fun _ _ => ⟨rfl, e0, (by decide : 0 + 0 ≤ _), (by decide : 0 + 0 ≤ _)⟩)
      dsimp only [Pt.U, Pt.locs, Pt.cells, Pt.slots] at X25 l25 y25 z25 st25 hQ25
      subst l25 y25 z25
      obtain ⟨hv25, N25q, e25q⟩ := hQ25
      have N25 := Fr.app N0 N25q
      rw [show own_of (1 : Int32) (1 : Int32) aX aK aT = aX from by simp [own_of]] at hv25
      subst hv25
      have e25 : T25.heap = h0 := e25q
      obtain ⟨T26, X26, e26, st26⟩ := getS2 X25 hx hZ hown (host := "") (Or.inl (hw _ (List.mem_of_getElem? (i := 6) rfl))) Via.refl e25 S_aX (g := (mkF m 37 #[iv p1, iv (1 : Int32), iv (1 : Int32), rv aX, .unset, .unset, .unset] [(.ref aX)])) rfl (hb hby at_37)
      obtain ⟨T27, X27, e27, st27⟩ := getS2 X26 hx hZ hown (host := "") (Or.inl (hw _ (List.mem_of_getElem? (i := 6) rfl))) Via.refl e26 S_aX (g := (mkF m 58 #[iv p1, iv (1 : Int32), iv (1 : Int32), rv aX, iv (1 : Int32), .unset, .unset] [(.ref aX)])) rfl (hb hby at_58)
      have pre28 : ∀ t, own_S p e below T27 m 111 #[iv p1, iv (1 : Int32), iv (1 : Int32), rv aX, iv (1 : Int32), iv (1 : Int32), iv (1 : Int32)] [(.int (1 : Int32))] t → Steps p.tables e below (s₁.setTop (entryFrame m #[(.int p1)] maxLocals)) t := fun t k => pre18 t (by
        show own_S p e below s₁ m 15 #[iv p1, iv (1 : Int32), .unset, .unset, .unset, .unset, .unset] [(.int (p1 &&& (2 : Int32)))] _
        refine XS.ifNo X0.here hx rfl (hb hby at_15) rfl ((if0 _ _).trans (feq hc15_17).1) ?_
        show own_S p e below s₁ m 18 #[iv p1, iv (1 : Int32), .unset, .unset, .unset, .unset, .unset] [] _
        refine XS.iconst X0.here hx rfl (hb hby at_18) ?_
        show own_S p e below s₁ m 19 #[iv p1, iv (1 : Int32), .unset, .unset, .unset, .unset, .unset] [(.int (1 : Int32))] _
        refine XS.goto X0.here hx rfl (pc0 := 19) (pc' := 23) rfl (hb hby at_19) (by decide) (by decide) ?_
        show own_S p e below s₁ m 23 #[iv p1, iv (1 : Int32), .unset, .unset, .unset, .unset, .unset] [(.int (1 : Int32))] _
        refine XS.istoreN X0.here hx rfl (hb hby at_23) rfl (l' := #[iv p1, iv (1 : Int32), iv (1 : Int32), .unset, .unset, .unset, .unset]) rfl ?_
        show own_S p e below s₁ m 24 #[iv p1, iv (1 : Int32), iv (1 : Int32), .unset, .unset, .unset, .unset] [] _
        refine XS.iloadN X0.here hx rfl (hb hby at_24) rfl ?_
        show own_S p e below s₁ m 25 #[iv p1, iv (1 : Int32), iv (1 : Int32), .unset, .unset, .unset, .unset] [(.int (1 : Int32))] _
        refine XS.iloadN X0.here hx rfl (hb hby at_25) rfl ?_
        show own_S p e below s₁ m 26 #[iv p1, iv (1 : Int32), iv (1 : Int32), .unset, .unset, .unset, .unset] [(.int (1 : Int32)), (.int (1 : Int32))] _
        refine st25 _ ?_
        show own_S p e below T25 m 29 #[iv p1, iv (1 : Int32), iv (1 : Int32), .unset, .unset, .unset, .unset] [(.ref aX)] _
        refine XS.astoreN X25.here hx rfl (hb hby at_29) rfl rfl (l' := #[iv p1, iv (1 : Int32), iv (1 : Int32), rv aX, .unset, .unset, .unset]) rfl ?_
        show own_S p e below T25 m 30 #[iv p1, iv (1 : Int32), iv (1 : Int32), rv aX, .unset, .unset, .unset] [] _
        refine XS.aloadN X25.here hx rfl (hb hby at_30) rfl rfl ?_
        show own_S p e below T25 m 31 #[iv p1, iv (1 : Int32), iv (1 : Int32), rv aX, .unset, .unset, .unset] [(.ref aX)] _
        refine XS.ifnonnullYes X25.here hx rfl (pc0 := 31) (pc' := 36) rfl (hb hby at_31) rfl (by decide) (by decide) ?_
        show own_S p e below T25 m 36 #[iv p1, iv (1 : Int32), iv (1 : Int32), rv aX, .unset, .unset, .unset] [] _
        refine XS.aloadN X25.here hx rfl (hb hby at_36) rfl rfl ?_
        show own_S p e below T25 m 37 #[iv p1, iv (1 : Int32), iv (1 : Int32), rv aX, .unset, .unset, .unset] [(.ref aX)] _
        refine st26 _ ?_
        show own_S p e below T26 m 40 #[iv p1, iv (1 : Int32), iv (1 : Int32), rv aX, .unset, .unset, .unset] [(.ref aX), (.ref aX)] _
        refine Jvm.RoadKit.acmp (g := (mkF m 40 #[iv p1, iv (1 : Int32), iv (1 : Int32), rv aX, .unset, .unset, .unset] [(.ref aX), (.ref aX)])) X26 hx rfl rfl rfl (pc0 := 40) (pc' := 50) (same := true) rfl (hb hby at_40) rfl (decide_eq_true rfl) (by decide) (by decide) ?_
        show own_S p e below T26 m 50 #[iv p1, iv (1 : Int32), iv (1 : Int32), rv aX, .unset, .unset, .unset] [] _
        refine XS.iconst X26.here hx rfl (hb hby at_50) ?_
        show own_S p e below T26 m 51 #[iv p1, iv (1 : Int32), iv (1 : Int32), rv aX, .unset, .unset, .unset] [(.int (1 : Int32))] _
        refine XS.goto X26.here hx rfl (pc0 := 51) (pc' := 55) rfl (hb hby at_51) (by decide) (by decide) ?_
        show own_S p e below T26 m 55 #[iv p1, iv (1 : Int32), iv (1 : Int32), rv aX, .unset, .unset, .unset] [(.int (1 : Int32))] _
        refine XS.istore X26.here hx rfl (hb hby at_55) rfl (l' := #[iv p1, iv (1 : Int32), iv (1 : Int32), rv aX, iv (1 : Int32), .unset, .unset]) rfl ?_
        show own_S p e below T26 m 57 #[iv p1, iv (1 : Int32), iv (1 : Int32), rv aX, iv (1 : Int32), .unset, .unset] [] _
        refine XS.aloadN X26.here hx rfl (hb hby at_57) rfl rfl ?_
        show own_S p e below T26 m 58 #[iv p1, iv (1 : Int32), iv (1 : Int32), rv aX, iv (1 : Int32), .unset, .unset] [(.ref aX)] _
        refine st27 _ ?_
        show own_S p e below T27 m 61 #[iv p1, iv (1 : Int32), iv (1 : Int32), rv aX, iv (1 : Int32), .unset, .unset] [(.ref aX), (.ref aX)] _
        refine Jvm.RoadKit.acmp (g := (mkF m 61 #[iv p1, iv (1 : Int32), iv (1 : Int32), rv aX, iv (1 : Int32), .unset, .unset] [(.ref aX), (.ref aX)])) X27 hx rfl rfl rfl (pc0 := 61) (pc' := 71) (same := true) rfl (hb hby at_61) rfl (decide_eq_true rfl) (by decide) (by decide) ?_
        show own_S p e below T27 m 71 #[iv p1, iv (1 : Int32), iv (1 : Int32), rv aX, iv (1 : Int32), .unset, .unset] [] _
        refine XS.iconst X27.here hx rfl (hb hby at_71) ?_
        show own_S p e below T27 m 72 #[iv p1, iv (1 : Int32), iv (1 : Int32), rv aX, iv (1 : Int32), .unset, .unset] [(.int (1 : Int32))] _
        refine XS.goto X27.here hx rfl (pc0 := 72) (pc' := 76) rfl (hb hby at_72) (by decide) (by decide) ?_
        show own_S p e below T27 m 76 #[iv p1, iv (1 : Int32), iv (1 : Int32), rv aX, iv (1 : Int32), .unset, .unset] [(.int (1 : Int32))] _
        refine XS.istore X27.here hx rfl (hb hby at_76) rfl (l' := #[iv p1, iv (1 : Int32), iv (1 : Int32), rv aX, iv (1 : Int32), iv (1 : Int32), .unset]) rfl ?_
        show own_S p e below T27 m 78 #[iv p1, iv (1 : Int32), iv (1 : Int32), rv aX, iv (1 : Int32), iv (1 : Int32), .unset] [] _
        refine XS.iloadN X27.here hx rfl (hb hby at_78) rfl ?_
        show own_S p e below T27 m 79 #[iv p1, iv (1 : Int32), iv (1 : Int32), rv aX, iv (1 : Int32), iv (1 : Int32), .unset] [(.int (1 : Int32))] _
        refine XS.ifYes X27.here hx rfl (pc0 := 79) (pc' := 86) rfl (hb hby at_79) rfl ((if0 _ _).trans (feq (by decide : ¬ ((1 : Int32) = (0 : Int32)))).2) (by decide) (by decide) ?_
        show own_S p e below T27 m 86 #[iv p1, iv (1 : Int32), iv (1 : Int32), rv aX, iv (1 : Int32), iv (1 : Int32), .unset] [] _
        refine XS.iconst X27.here hx rfl (hb hby at_86) ?_
        show own_S p e below T27 m 87 #[iv p1, iv (1 : Int32), iv (1 : Int32), rv aX, iv (1 : Int32), iv (1 : Int32), .unset] [(.int (1 : Int32))] _
        refine XS.goto X27.here hx rfl (pc0 := 87) (pc' := 91) rfl (hb hby at_87) (by decide) (by decide) ?_
        show own_S p e below T27 m 91 #[iv p1, iv (1 : Int32), iv (1 : Int32), rv aX, iv (1 : Int32), iv (1 : Int32), .unset] [(.int (1 : Int32))] _
        refine XS.istore X27.here hx rfl (hb hby at_91) rfl (l' := #[iv p1, iv (1 : Int32), iv (1 : Int32), rv aX, iv (1 : Int32), iv (1 : Int32), iv (1 : Int32)]) rfl ?_
        show own_S p e below T27 m 93 #[iv p1, iv (1 : Int32), iv (1 : Int32), rv aX, iv (1 : Int32), iv (1 : Int32), iv (1 : Int32)] [] _
        refine XS.iload X27.here hx rfl (hb hby at_93) rfl ?_
        show own_S p e below T27 m 95 #[iv p1, iv (1 : Int32), iv (1 : Int32), rv aX, iv (1 : Int32), iv (1 : Int32), iv (1 : Int32)] [(.int (1 : Int32))] _
        refine XS.iloadN X27.here hx rfl (hb hby at_95) rfl ?_
        show own_S p e below T27 m 96 #[iv p1, iv (1 : Int32), iv (1 : Int32), rv aX, iv (1 : Int32), iv (1 : Int32), iv (1 : Int32)] [(.int (1 : Int32)), (.int (1 : Int32))] _
        refine XS.icmpNo X27.here hx rfl (hb hby at_96) rfl (teq (by decide : (1 : Int32) = (1 : Int32))).2 ?_
        show own_S p e below T27 m 99 #[iv p1, iv (1 : Int32), iv (1 : Int32), rv aX, iv (1 : Int32), iv (1 : Int32), iv (1 : Int32)] [] _
        refine XS.iload X27.here hx rfl (hb hby at_99) rfl ?_
        show own_S p e below T27 m 101 #[iv p1, iv (1 : Int32), iv (1 : Int32), rv aX, iv (1 : Int32), iv (1 : Int32), iv (1 : Int32)] [(.int (1 : Int32))] _
        refine XS.iload X27.here hx rfl (hb hby at_101) rfl ?_
        show own_S p e below T27 m 103 #[iv p1, iv (1 : Int32), iv (1 : Int32), rv aX, iv (1 : Int32), iv (1 : Int32), iv (1 : Int32)] [(.int (1 : Int32)), (.int (1 : Int32))] _
        refine XS.icmpNo X27.here hx rfl (hb hby at_103) rfl (teq (by decide : (1 : Int32) = (1 : Int32))).2 ?_
        show own_S p e below T27 m 106 #[iv p1, iv (1 : Int32), iv (1 : Int32), rv aX, iv (1 : Int32), iv (1 : Int32), iv (1 : Int32)] [] _
        refine XS.iconst X27.here hx rfl (hb hby at_106) ?_
        show own_S p e below T27 m 107 #[iv p1, iv (1 : Int32), iv (1 : Int32), rv aX, iv (1 : Int32), iv (1 : Int32), iv (1 : Int32)] [(.int (1 : Int32))] _
        refine XS.goto X27.here hx rfl (pc0 := 107) (pc' := 111) rfl (hb hby at_107) (by decide) (by decide) ?_
        exact k)
      obtain ⟨fs, hr, hrun, hended, hW, hsame⟩ := X27.leave (v := some (.int (nar .boolean (1 : Int32)))) (fun h => by rw [Bd.returns] at h; cases h)
      refine ⟨_, _, pre28 _ ?_, hrun, hended, _, _, rfl, ?_, ⟨_, rfl⟩, hW, hsame.mono (by decide) (by decide)⟩
      · show own_S p e below T27 m 111 #[iv p1, iv (1 : Int32), iv (1 : Int32), rv aX, iv (1 : Int32), iv (1 : Int32), iv (1 : Int32)] [(.int (1 : Int32))] _
        exact retN X27 hx (t := .boolean) Bd.returns (by simp) (hb hby at_111) hr
      · show Q0 Z p1 aX aK aT h0 n0 _ T27.heap _
        rw [e27]
        exact ⟨rfl, N25⟩
set_option maxRecDepth 65536 in
set_option maxHeartbeats 40000000 in
theorem comes_1 {Post : Tables → Env → Array Value → State → Outcome → State → Prop} (hpost : ∀ tb e args s v u, (limb_1_1.after args s (.returned v) u = true ∧ limb_1_2.after args s (.returned v) u = true ∧ True) → FrameEnd s (.returned v) u (Jvm.fieldLocs frame_1_writes args s ++ Jvm.arrayLocs frame_1_arrays args s ++ Jvm.staticLocs frame_1_statics s) 0 0 → Post tb e args s (.returned v) u) :
    ArmFor flags0 classFile x code maxLocals ret World_1 tables_1 room_1 Calls_1 rest_1 Pre_1 Post := by
  intro l hfl _ _ p e ha hc hk s m args below hf hA hF happ hP
  obtain ⟨hcalls, hrest, hpre⟩ := hP
  obtain ⟨-, -, -, hnamed, -, -, -, hat⟩ := (Spec.applies_iff hf).mp happ
  obtain ⟨hg, hn⟩ := and_e (Cond.before_iff.mp (show (Jvm.Cond.and given_1 narrow_1).before args s = true from hpre))
  obtain ⟨g1, g2⟩ := and_e hg
  obtain ⟨w0, rfl⟩ : ∃ w0 : Value, args = #[w0] := by
    have hs : args.size = 1 := by simpa [Cond.value, given_1] using g1
    obtain ⟨L⟩ := args
    match L, hs with
    | [w0], _ => exact ⟨w0, rfl⟩
  have hw := fun d (hd : d ∈ tables_1) => atoms_spec (ws := Jvm.Cond.code x code maxLocals ret :: tables_1) hat d (List.mem_cons_of_mem _ hd)
  have hfit : Fit s := fun {y c} hc i hi => by
    obtain ⟨ha, rfl⟩ := Array.getElem?_eq_some_iff.mp hc
    have q := List.all_eq_true.mp ((Array.all_eq_true_iff_forall_mem.mp hF) _ (Array.getElem_mem ha)) i (List.mem_range.mpr hi)
    simpa [Array.getElem?_eq_getElem hi] using q
  obtain ⟨i0, ei0⟩ := is_v g2
  obtain rfl : w0 = (.int i0) := Option.some.inj ei0
  obtain ⟨n0, hn0⟩ := and_e hn
  obtain ⟨n1, hn1⟩ := and_e hn0
  obtain ⟨n2, hn2⟩ := and_e hn1
  obtain ⟨n3, hn3⟩ := and_e hn2
  obtain ⟨n4, hn4⟩ := and_e hn3
  have n5 := hn4
  obtain ⟨aX, ev_aX⟩ := exa_v n1
  have S_aX := Sta.start ev_aX (Or.inr ⟨(hw _ (List.mem_of_getElem? (i := 2) rfl)), (hw _ (List.mem_of_getElem? (i := 7) rfl))⟩)
  have F_aX := Fld.start ((fld_at ev_aX).symm.trans (own_eqI n3))
  obtain ⟨aK, ev_aK⟩ := exa_v n4
  have S_aK := Sta.start ev_aK (Or.inr ⟨(hw _ (List.mem_of_getElem? (i := 2) rfl)), (hw _ (List.mem_of_getElem? (i := 9) rfl))⟩)
  have F_aK := Fld.start ((fld_at ev_aK).symm.trans (own_eqI n5))
  obtain ⟨aT, ev_aT⟩ := exa_v n0
  have S_aT := Sta.start ev_aT (Or.inr ⟨(hw _ (List.mem_of_getElem? (i := 2) rfl)), (hw _ (List.mem_of_getElem? (i := 5) rfl))⟩)
  have F_aT := Fld.start ((fld_at ev_aT).symm.trans (own_eqI n2))
  obtain ⟨n, o, h1, h2, h3, _, L, rfl, ⟨rfl, N⟩, hq⟩ := rm0 l s _ hw tables_1 i0 aX aK aT s.heap s.heap.size (Nat.le_refl _) S_aX S_aK S_aT (Fld.ne F_aX F_aK (by simp)) (Fld.ne F_aX F_aT (by simp)) (Fld.ne F_aK F_aT (by simp)) p e ha hc hk s m _ below hf ((Spec.applies_iff_loose hf).mp happ).1 ⟨rfl, State.Warmed39.refl s, rfl⟩ trivial
  refine ⟨n, _, h1, h2, h3, hpost _ _ _ _ _ _ ⟨Cond.after_iff.mpr rfl, Cond.after_iff.mpr (eq_i res_at (Term.int_eval (1)) rfl), trivial⟩ ⟨hq.1, hq.2.1, (hq.2.2.sift fun y hy => Or.inr (N y hy)).mono (by decide) (by decide)⟩⟩
theorem main_1_1 : Claimed_1_1 := comes_1 fun _ _ _ _ _ _ h hF => ⟨h.1, hF⟩
theorem main_1_2 : Claimed_1_2 := comes_1 fun _ _ _ _ _ _ h hF => ⟨h.2.1, hF⟩
end Jvm.Pilot.@@N@@
namespace Jvm.Pilot.@@N@@
open Jvm Jvm.ClassFile Sem Op Lib Jvm.Free Jvm.Stand Jvm.Pilot.@@N@@.Jvm.D
/-! MADE BY PROGRAM (witnessworld.py) out of the Statement's table words and the real class files: 12 classes; the members and pool entries that the words name. The judged class is class 1, her method 1. -/
namespace start1
open Jvm.ClassFile
def u (s : String) : CpInfo := .utf8 (stringToUtf16 s)
/-- a pool by its gaps: so many unusable entries, then the entry; so many at the end -/
def gap : Nat → List CpInfo → List CpInfo
  | 0, r => r
  | n + 1, r => .unusable :: gap n r
def poolList (es : List (Nat × CpInfo)) (last : Nat) : List CpInfo := es.foldr (fun e r => gap e.1 (e.2 :: r)) (gap last [])
def pool (es : List (Nat × CpInfo)) (last : Nat) : Array CpInfo := ⟨poolList es last⟩
def fileOf (pool : Array CpInfo) (this : Nat) (attrs : Array Attribute := #[]) (ms : Array MethodInfo := #[]) (fl : Nat := 33) (sup : Nat := 0) (ifs : Array Nat := #[]) (fds : Array FieldInfo := #[]) : ClassFile where
  minorVersion := 0
  majorVersion := 65
  constantPool := pool
  accessFlags := fl
  thisClass := this
  superClass := sup
  interfaces := ifs
  fields := fds
  methods := ms
  attributes := attrs
def plain (name : String) (sup : Option ClassId) : Class where
  name := name
  kind := .ordinary
  loader := none
  accessFlags := 33
  super := sup
  interfaces := #[]
  cf := none
  fields := #[]
  methods := #[]
  instanceTypes := #[]
  staticTypes := #[]
  resolved := #[]
  callSites := []
  init := .initialized
  statics := none
  mirror := none

def pool0 : Array CpInfo := pool [(5, u "<init>"), (0, u "()V"), (1, .class_ 10), (1, u "java/lang/Object")] 113

def k0m0 : Method := { name := "<init>", desc := "()V", sig := { parameters := [], returnType := none }, accessFlags := 1, code := none }
/-- java/lang/Object -/
def k0 : Class := { plain "java/lang/Object" none with
  accessFlags := 33
  interfaces := #[]
  cf := some (fileOf pool0 8 #[] #[{ accessFlags := 1, nameIndex := 5, descriptorIndex := 6, attributes := #[] }] 33 0 #[] #[])
  fields := #[]
  methods := #[k0m0]
  instanceTypes := #[]
  staticTypes := #[]
  resolved := Array.replicate 124 none
  statics := none }

def pool1 : Array CpInfo := pool [(2, .class_ 4), (1, u "java/lang/Object"), (0, u "<init>"), (0, u "()V"), (0, .methodref 8 9), (0, .class_ 10), (0, .nameAndType 11 12), (0, u "com/example/garter/garter/copy/OwnMoved"), (0, u "of"), (0, u "(ZZ)Lcom/example/garter/garter/copy/OwnMoved;"), (0, .fieldref 8 14), (0, .nameAndType 15 16), (0, u "KEYS_AND_TRIGGERS"), (0, u "Lcom/example/garter/garter/copy/OwnMoved;"), (0, .fieldref 8 18), (0, .nameAndType 19 16), (0, u "KEYS"), (0, .fieldref 8 21), (0, .nameAndType 22 16), (0, u "TRIGGERS"), (0, .class_ 24), (0, u "com/example/garter/garter/copy/OwnMovedOfPinLaw"), (2, u "law"), (0, u "(I)Z")] 3

def k1m0 : Method := { name := "<init>", desc := "()V", sig := { parameters := [], returnType := none }, accessFlags := 1, code := none }
def k1c1 : Code := { maxStack := 2, maxLocals := 7, code := code, exceptionTable := #[], attributes := #[] }
def k1m1 : Method := { name := "law", desc := "(I)Z", sig := { parameters := [.int], returnType := some .boolean }, accessFlags := 9, code := some k1c1 }
/-- com/example/garter/garter/copy/OwnMovedOfPinLaw -/
def k1 : Class := { plain "com/example/garter/garter/copy/OwnMovedOfPinLaw" (some 0) with
  accessFlags := 49
  interfaces := #[]
  cf := some (fileOf pool1 23 #[] #[{ accessFlags := 1, nameIndex := 5, descriptorIndex := 6, attributes := #[] }, { accessFlags := 9, nameIndex := 27, descriptorIndex := 28, attributes := #[] }] 49 2 #[] #[])
  fields := #[]
  methods := #[k1m0, k1m1]
  instanceTypes := #[]
  staticTypes := #[]
  resolved := Array.replicate 32 none
  statics := none }

def pool2 : Array CpInfo := pool [(1, .class_ 2), (0, u "java/lang/constant/Constable"), (0, .class_ 4), (0, u "java/lang/Object")] 6

/-- java/lang/constant/Constable -/
def k2 : Class := { plain "java/lang/constant/Constable" (some 0) with
  accessFlags := 1537
  interfaces := #[]
  cf := some (fileOf pool2 1 #[] #[] 1537 3 #[] #[])
  fields := #[]
  methods := #[]
  instanceTypes := #[]
  staticTypes := #[]
  resolved := Array.replicate 11 none
  statics := none }

def pool3 : Array CpInfo := pool [(1, .class_ 2), (0, u "java/lang/Comparable"), (0, .class_ 4), (0, u "java/lang/Object")] 7

/-- java/lang/Comparable -/
def k3 : Class := { plain "java/lang/Comparable" (some 0) with
  accessFlags := 1537
  interfaces := #[]
  cf := some (fileOf pool3 1 #[] #[] 1537 3 #[] #[])
  fields := #[]
  methods := #[]
  instanceTypes := #[]
  staticTypes := #[]
  resolved := Array.replicate 12 none
  statics := none }

def pool4 : Array CpInfo := pool [(1, .class_ 2), (0, u "java/io/Serializable"), (0, .class_ 4), (0, u "java/lang/Object")] 2

/-- java/io/Serializable -/
def k4 : Class := { plain "java/io/Serializable" (some 0) with
  accessFlags := 1537
  interfaces := #[]
  cf := some (fileOf pool4 1 #[] #[] 1537 3 #[] #[])
  fields := #[]
  methods := #[]
  instanceTypes := #[]
  staticTypes := #[]
  resolved := Array.replicate 7 none
  statics := none }

def pool5 : Array CpInfo := pool [(2, .class_ 4), (1, u "java/lang/Enum"), (0, u "name"), (0, u "Ljava/lang/String;"), (2, u "ordinal"), (0, u "I"), (1, .class_ 14), (1, u "java/lang/Object"), (4, u "hash"), (86, .class_ 108), (1, u "java/lang/Enum$EnumDesc"), (2, .class_ 112), (0, u "java/lang/constant/Constable"), (0, .class_ 114), (0, u "java/lang/Comparable"), (0, .class_ 116), (0, u "java/io/Serializable")] 87

/-- java/lang/Enum -/
def k5 : Class := { plain "java/lang/Enum" (some 0) with
  accessFlags := 1057
  interfaces := #[2, 3, 4]
  cf := some (fileOf pool5 2 #[.nestMembers #[106]] #[] 1057 12 #[111, 113, 115] #[{ accessFlags := 18, nameIndex := 5, descriptorIndex := 6, attributes := #[] }, { accessFlags := 18, nameIndex := 9, descriptorIndex := 10, attributes := #[] }, { accessFlags := 2, nameIndex := 19, descriptorIndex := 10, attributes := #[] }])
  fields := #[{ name := "name", type := (.object "java/lang/String"), accessFlags := 18, slot := 0, constantValue := 0 }, { name := "ordinal", type := .int, accessFlags := 18, slot := 1, constantValue := 0 }, { name := "hash", type := .int, accessFlags := 2, slot := 2, constantValue := 0 }]
  methods := #[]
  instanceTypes := #[(.object "java/lang/String"), .int, .int]
  staticTypes := #[]
  resolved := Array.replicate 204 none
  statics := none }

def pool6 : Array CpInfo := pool [(1, .class_ 2), (0, u "com/example/garter/garter/copy/OwnMoved"), (0, .fieldref 1 4), (0, .nameAndType 5 6), (0, u "KEYS_AND_TRIGGERS"), (0, u "Lcom/example/garter/garter/copy/OwnMoved;"), (0, .fieldref 1 8), (0, .nameAndType 9 6), (0, u "KEYS"), (0, .fieldref 1 11), (0, .nameAndType 12 6), (0, u "TRIGGERS"), (2, u "$VALUES"), (0, u "[Lcom/example/garter/garter/copy/OwnMoved;"), (6, .class_ 25), (1, u "java/lang/Enum"), (8, u "named"), (0, u "Ljava/lang/String;"), (2, u "whose"), (29, u "of"), (0, u "(ZZ)Lcom/example/garter/garter/copy/OwnMoved;")] 9

def k6c0 : Code := { maxStack := 1, maxLocals := 3, code := prog_64_method_4_code, exceptionTable := #[], attributes := #[] }
def k6m0 : Method := { name := "of", desc := "(ZZ)Lcom/example/garter/garter/copy/OwnMoved;", sig := { parameters := [.boolean, .boolean], returnType := some (.object "com/example/garter/garter/copy/OwnMoved") }, accessFlags := 8, code := some k6c0 }
/-- com/example/garter/garter/copy/OwnMoved -/
def k6 : Class := { plain "com/example/garter/garter/copy/OwnMoved" (some 5) with
  accessFlags := 16432
  interfaces := #[]
  cf := some (fileOf pool6 1 #[] #[{ accessFlags := 8, nameIndex := 68, descriptorIndex := 69, attributes := #[] }] 16432 23 #[] #[{ accessFlags := 16409, nameIndex := 5, descriptorIndex := 6, attributes := #[] }, { accessFlags := 16409, nameIndex := 9, descriptorIndex := 6, attributes := #[] }, { accessFlags := 16409, nameIndex := 12, descriptorIndex := 6, attributes := #[] }, { accessFlags := 18, nameIndex := 34, descriptorIndex := 35, attributes := #[] }, { accessFlags := 18, nameIndex := 38, descriptorIndex := 35, attributes := #[] }, { accessFlags := 4122, nameIndex := 15, descriptorIndex := 16, attributes := #[] }])
  fields := #[{ name := "KEYS_AND_TRIGGERS", type := (.object "com/example/garter/garter/copy/OwnMoved"), accessFlags := 16409, slot := 0, constantValue := 0 }, { name := "KEYS", type := (.object "com/example/garter/garter/copy/OwnMoved"), accessFlags := 16409, slot := 1, constantValue := 0 }, { name := "TRIGGERS", type := (.object "com/example/garter/garter/copy/OwnMoved"), accessFlags := 16409, slot := 2, constantValue := 0 }, { name := "named", type := (.object "java/lang/String"), accessFlags := 18, slot := 3, constantValue := 0 }, { name := "whose", type := (.object "java/lang/String"), accessFlags := 18, slot := 4, constantValue := 0 }, { name := "$VALUES", type := (.array (.object "com/example/garter/garter/copy/OwnMoved")), accessFlags := 4122, slot := 3, constantValue := 0 }]
  methods := #[k6m0]
  instanceTypes := #[(.object "java/lang/String"), .int, .int, (.object "java/lang/String"), (.object "java/lang/String")]
  staticTypes := #[(.object "com/example/garter/garter/copy/OwnMoved"), (.object "com/example/garter/garter/copy/OwnMoved"), (.object "com/example/garter/garter/copy/OwnMoved"), (.array (.object "com/example/garter/garter/copy/OwnMoved"))]
  resolved := Array.replicate 79 none
  statics := some 0 }

def pool7 : Array CpInfo := pool [(1, u "java/lang/Cloneable"), (0, .class_ 1), (0, u "java/lang/Object"), (0, .class_ 3)] 3

/-- java/lang/Cloneable -/
def k7 : Class := { plain "java/lang/Cloneable" (some 0) with
  accessFlags := 1537
  interfaces := #[]
  cf := some (fileOf pool7 2 #[] #[] 1537 4 #[] #[])
  fields := #[]
  methods := #[]
  instanceTypes := #[]
  staticTypes := #[]
  resolved := Array.replicate 8 none
  statics := none }

/-- the primitive byte -/
def k8 : Class := { plain "byte" none with kind := .primitive 'B', accessFlags := 0x411 }
/-- [B -/
def k9 : Class := { plain "[B" (some 0) with kind := .array 8 .byte, interfaces := #[7, 4], accessFlags := 1041 }

/-- the primitive int -/
def k10 : Class := { plain "int" none with kind := .primitive 'I', accessFlags := 0x411 }
/-- [I -/
def k11 : Class := { plain "[I" (some 0) with kind := .array 10 .int, interfaces := #[7, 4], accessFlags := 1041 }

def heap : Heap := #[{ cls := 6, slots := #[.ref 1, .ref 2, .ref 3, .null], vm := .statics 6 },
  { cls := 6, slots := #[.null, .int 0, .int 0, .null, .null], vm := .none },
  { cls := 6, slots := #[.null, .int 1, .int 0, .null, .null], vm := .none },
  { cls := 6, slots := #[.null, .int 2, .int 0, .null, .null], vm := .none }]
def classes : Array Class := #[k0, k1, k2, k3, k4, k5, k6, k7, k8, k9, k10, k11]
def interned : List (Array UInt16 × Addr) := []
def slotsUsed : Nat := 19
def theMethod : MethodId := ⟨1, 1⟩
def args0 : Array Value := #[.int 1]
def aboutOver (below : List Frame) : State where
  vm := { classes := classes, interned := interned.toArray }
  heap := heap
  slotsUsed := slotsUsed
  threads := #[{ frames := .invoking theMethod args0 :: below }]
def below0 : List Frame := [.native { method := ⟨0, 0⟩, args := #[] }]
def about1 : State := aboutOver below0
def p0 : Program := .bare "" "" ""
def e0 : Env := launch0.env 0 0 0
theorem w_frames : about1.frames = Frame.invoking theMethod args0 :: below0 := rfl
set_option maxRecDepth 65536 in
theorem w_args : argsFit about1.vm theMethod args0 = true := by decide +kernel
set_option maxRecDepth 65536 in
theorem w_heap : heapFits about1 = true := by decide +kernel
set_option maxRecDepth 65536 in
theorem w_runnable : about1.curStatus? = some .runnable := by decide +kernel
set_option maxRecDepth 65536 in
theorem w_alone : about1.alone = true := by decide +kernel
set_option maxRecDepth 65536 in
theorem w_named : about1.methodNamed? x = some theMethod := by decide +kernel
set_option maxRecDepth 65536 in
theorem w_hears : about1.hears theMethod below0 = true := by decide +kernel
set_option maxRecDepth 65536 in
theorem w_ripe : about1.ripe theMethod args0 below0 = true := by decide +kernel
theorem w_running : about1.status = .running := rfl
set_option maxRecDepth 65536 in
theorem w_room : about1.hasRoom e0.platform room_1 = true :=
  launch0.hasRoom_least _ room_1 (by decide +kernel) (by decide +kernel) (by decide +kernel) (by decide +kernel) (by decide +kernel) (by decide +kernel)
theorem allAtoms_all (ts : List Jvm.Cond) (a : Array Jvm.Value) (st : Jvm.State) : (allAtoms ts).before a st = ts.all (fun c => c.before a st) := by
  induction ts with
  | nil => rfl
  | cons c t ih =>
    show (Jvm.Cond.and c (allAtoms t)).before a st = _
    rw [Jvm.Cond.before_and, ih, List.all_cons]
def words1 : List Jvm.Cond := Jvm.Cond.code x code maxLocals ret :: tables_1
/-- a 'code' word, met by the world's own term for the bytes: nothing is compared byte by byte -/
theorem code_word {y : MethodName} {bytes : ByteArray} {mx : Nat} {rt : Option FieldType} {a : Array Value} {s : State} {m : MethodId} {meth : Method} {c : Code} (h1 : s.methodNamed? y = some m) (h2 : s.vm.method? m = some meth) (h3 : meth.code = some c) (h4 : c.code = bytes)
    (h5 : (c.maxLocals == mx && c.exceptionTable.isEmpty && decide (c.maxStack ≤ mostOperands) && decide (meth.sig.returnType = rt) && !meth.locks && decide (parseMethodDescriptor y.desc = some meth.sig)) = true) : (Jvm.Cond.code y bytes mx rt).before a s = true := by
  simp only [Bool.and_eq_true, beq_iff_eq, Bool.not_eq_true', decide_eq_true_eq] at h5
  obtain ⟨⟨⟨⟨⟨g1, g2⟩, g3⟩, g4⟩, g5⟩, g6⟩ := h5
  simp [Cond.before, Cond.holds, Cond.value, h1, h2, h3, h4, g1, g2, g3, g4, g5, g6]
def isCode : Jvm.Cond → Bool
  | .code _ _ _ _ => true
  | _ => false
theorem all_split {L : List Jvm.Cond} {P : Jvm.Cond → Bool} (h1 : L.all (fun c => isCode c || P c) = true) (h2 : ∀ c ∈ L.filter isCode, P c = true) : L.all P = true := by
  refine List.all_eq_true.mpr fun c hc => ?_
  have h := List.all_eq_true.mp h1 c hc
  rcases Bool.eq_false_or_eq_true (isCode c) with hi | hi
  · exact h2 c (List.mem_filter.mpr ⟨hc, hi⟩)
  · simpa [hi] using h
set_option maxRecDepth 65536 in
theorem w_c0 : (Jvm.Cond.code x code maxLocals ret).before args0 about1 = true := code_word (m := ⟨1, 1⟩) (meth := k1m1) (c := k1c1) (by decide +kernel) rfl rfl rfl (by decide +kernel)
set_option maxRecDepth 65536 in
theorem w_c1 : (Jvm.Cond.code ({ cls := "com/example/garter/garter/copy/OwnMoved", name := "of", desc := "(ZZ)Lcom/example/garter/garter/copy/OwnMoved;" } : Jvm.MethodName) prog_64_method_4_code (3 : Nat) (Option.some (Jvm.ClassFile.FieldType.object "com/example/garter/garter/copy/OwnMoved"))).before args0 about1 = true := code_word (m := ⟨6, 0⟩) (meth := k6m0) (c := k6c0) (by decide +kernel) rfl rfl rfl (by decide +kernel)
def codes1 : List Jvm.Cond := [Jvm.Cond.code x code maxLocals ret, Jvm.Cond.code ({ cls := "com/example/garter/garter/copy/OwnMoved", name := "of", desc := "(ZZ)Lcom/example/garter/garter/copy/OwnMoved;" } : Jvm.MethodName) prog_64_method_4_code (3 : Nat) (Option.some (Jvm.ClassFile.FieldType.object "com/example/garter/garter/copy/OwnMoved"))]
set_option maxRecDepth 65536 in
theorem codes_eq : words1.filter isCode = codes1 := rfl
theorem w_codes : ∀ c ∈ words1.filter isCode, c.before args0 about1 = true := by
  rw [codes_eq]
  intro c hc
  simp only [codes1, List.mem_cons, List.not_mem_nil, or_false] at hc
  rcases hc with rfl | rfl
  · exact w_c0
  · exact w_c1
set_option maxRecDepth 65536 in
theorem w_t1 : words1.all (fun c => isCode c || c.before args0 about1) = true := by decide +kernel
theorem w_tables : (allAtoms (Jvm.Cond.code x code maxLocals ret :: tables_1)).before args0 about1 = true := by
  rw [allAtoms_all]
  show words1.all (fun c => c.before args0 about1) = true
  refine all_split ?_ w_codes
  rw [w_t1]
set_option maxRecDepth 65536 in
theorem w_case : (Jvm.Cond.and given_1 narrow_1).before args0 about1 = true := by decide +kernel
theorem w_applies : (headSpec (Jvm.Cond.code x code maxLocals ret :: tables_1) room_1).applies x e0.platform about1 = true :=
  (Spec.applies_iff w_frames).mpr ⟨w_running, w_runnable, w_alone, w_named, w_hears, w_ripe, w_room, w_tables⟩
theorem atStart : AtStart classFile x code maxLocals ret World_1 tables_1 room_1 Calls_1 rest_1 Pre_1 launch0 p0 e0 about1 theMethod args0 below0 :=
  ⟨lists_1, trivial, launch0.admits_env _ _ _, launch0.least_env, fairChoices_fair.cas, fairChoices_fair.clock, w_frames, w_args, w_heap, w_applies, trivial, trivial, w_case⟩
end start1
theorem witness_1 : WitnessClaimed_1 := ⟨start1.p0, start1.e0, start1.about1, start1.theMethod, start1.args0, start1.below0, start1.atStart⟩
end Jvm.Pilot.@@N@@
