import JvmDerived
import JvmDerived.Pilot.@@N@@Statement
import JvmDerived.Pilot.@@N@@Code
set_option linter.unusedVariables false
set_option linter.unusedSimpArgs false
namespace Jvm.RoadKit
open Sem ClassFile Op Lib Jvm.Stand Jvm.Free Jvm.LawKit
section New
variable {p : Program} {l : Launch} {e : Env} {R : Room} {s : State} {m : MethodId} {args : Array Value} {below : List Frame} {meth : Method} {c : Code} {T : State} {locs : List Loc} {cells slots : Nat}
theorem retI (X : Stand p l e R s m args below meth c T locs cells slots) (hx : p.tables.exec = Jvm.exec) {pc : Nat} {Ls : Array Slot} {z : Int32} {rest : List Value} (hret : meth.sig.returnType = some .int) (hd : decode c.code pc = .ok (.ireturn, 1)) {fs : List Frame}
    (hl : ∀ (f : JFrame) (acts : List Action), f.method = m → f.locked = none → f.entered = [] → (doReturn e (T.setTop f) acts (some (.int z))).1 = T.setFrames fs) : Steps p.tables e below (T.setTop (mkF m pc Ls (.int z :: rest))) (T.setFrames fs) := by
  have hm' : T.vm.method? m = some meth := X.method'
  have hn : narrow .int (.int z) = .int z := rfl
  show Steps p.tables e below (T.setTop { method := m, pc := pc, locals := Ls, stack := _ :: rest, locked := none }) _
  jvm_step X.here [X.here.top, hx, hd, hm', hret, hn]
  first | (intro acts; rw [hl _ acts rfl rfl rfl]) | rw [hl _ _ rfl rfl rfl]
  exact Steps.refl _
end New
end Jvm.RoadKit
namespace Jvm.Pilot.@@N@@
open Jvm Jvm.ClassFile Sem Op Lib Jvm.Free Jvm.Stand Jvm.LawKit Jvm.RoadKit Bundle Jvm.Pilot.@@N@@.Jvm.D
abbrev own_S (p : Program) (e : Env) (b : List Frame) (T : State) (m : MethodId) (pc : Nat) (L : Array Slot) (S : List Value) (t : State) : Prop := Steps p.tables e b (T.setTop (mkF m pc L S)) t
def own_vs (xs : List Int32) : List Value := xs.map Value.int ++ List.replicate ((if xs.length ≤ 4 then 4 else 8) - xs.length) (.int 0)
def own_z (xs : List Int32) : Int32 := if xs.length ≤ 4 then 4 else 8
def own_srt : List Int32 → Prop
  | [] => True
  | [_] => True
  | x :: y :: r => x < y ∧ own_srt (y :: r)
def own_chs (xs : List Int32) : Prop := ∀ x ∈ xs, nar .char x = x
theorem own_eq {x y : Int32} (h1 : ¬ x < y) (h2 : ¬ y < x) : x = y := by
  rw [Int32.lt_iff_toInt_lt] at h1 h2
  exact Int32.toInt_inj.mp (by omega)
theorem own_tr {x y z : Int32} (h1 : x < y) (h2 : y < z) : x < z := by
  rw [Int32.lt_iff_toInt_lt] at *; omega
theorem own_irr (x : Int32) : ¬ x < x := by rw [Int32.lt_iff_toInt_lt]; omega
theorem own_nn (x : Int32) : nar .char (nar .char x) = nar .char x := by simp only [nar, UInt32.toUInt32_toInt32, UInt16.toUInt16_toUInt32]
theorem own_len1 {xs : List Int32} (h : xs.length = 1) : ∃ a, xs = [a] := by
  match xs, h with
  | [a], _ => exact ⟨a, rfl⟩
theorem own_len2 {xs : List Int32} (h : xs.length = 2) : ∃ a b, xs = [a, b] := by
  match xs, h with
  | [a, b], _ => exact ⟨a, b, rfl⟩
theorem own_len3 {xs : List Int32} (h : xs.length = 3) : ∃ a b c, xs = [a, b, c] := by
  match xs, h with
  | [a, b, c], _ => exact ⟨a, b, c, rfl⟩
theorem own_len4 {xs : List Int32} (h : xs.length = 4) : ∃ a b c d, xs = [a, b, c, d] := by
  match xs, h with
  | [a, b, c, d], _ => exact ⟨a, b, c, d, rfl⟩
theorem pn_0 : plainName "com/example/bitstrata/bitstrata/ArrayContainer" = true := by first | (simp [plainName, overriddenIn]; done) | decide +kernel
theorem ef_I (m : MethodId) (a1 : Addr) (p2 : Int32) : entryFrame m #[(.ref a1), (.int p2)] 2 = mkF m 0 #[rv a1, iv p2] [] := by first | (simp [entryFrame, mkF, argsToLocals, Value.category]; done) | rfl
def QI (Z : State) (a1 : Addr) (p2 : Int32) (h0 : Heap) (n0 : Nat) (v : Option Value) (h : Heap) (L : List Loc) : Prop := ∃ (t : Addr) (k : ClassId), v = none ∧ Fr n0 L ∧ Keep h0 h [a1] ∧ Exa Z h a1 "com/example/bitstrata/bitstrata/ArrayContainer" ∧ Fld Z h a1 "com/example/bitstrata/bitstrata/ArrayContainer" "values" "[C" (.ref t) ∧ Fld Z h a1 "com/example/bitstrata/bitstrata/ArrayContainer" "cardinality" "I" (.int 1) ∧ Arv Z h t k .char (4 : Int32) [.int p2, .int 0, .int 0, .int 0] (.int 0) ∧ n0 ≤ t ∧ h0.size ≤ t
theorem d1_0 : decode prog_1_method_1_code 0 = .ok (.aload_n 0, 1) := by decide +kernel
theorem d1_1 : decode prog_1_method_1_code 1 = .ok (.invokespecial 1, 3) := by decide +kernel
theorem d1_4 : decode prog_1_method_1_code 4 = .ok (.aload_n 0, 1) := by decide +kernel
theorem d1_5 : decode prog_1_method_1_code 5 = .ok (.iconst 4, 1) := by decide +kernel
theorem d1_6 : decode prog_1_method_1_code 6 = .ok (.newarray .char, 2) := by decide +kernel
theorem d1_8 : decode prog_1_method_1_code 8 = .ok (.putfield 9, 3) := by decide +kernel
theorem d1_11 : decode prog_1_method_1_code 11 = .ok (.aload_n 0, 1) := by decide +kernel
theorem d1_12 : decode prog_1_method_1_code 12 = .ok (.getfield 9, 3) := by decide +kernel
theorem d1_15 : decode prog_1_method_1_code 15 = .ok (.iconst 0, 1) := by decide +kernel
theorem d1_16 : decode prog_1_method_1_code 16 = .ok (.iload_n 1, 1) := by decide +kernel
theorem d1_17 : decode prog_1_method_1_code 17 = .ok (.castore, 1) := by decide +kernel
theorem d1_18 : decode prog_1_method_1_code 18 = .ok (.aload_n 0, 1) := by decide +kernel
theorem d1_19 : decode prog_1_method_1_code 19 = .ok (.iconst 1, 1) := by decide +kernel
theorem d1_20 : decode prog_1_method_1_code 20 = .ok (.putfield 13, 3) := by decide +kernel
theorem d1_23 : decode prog_1_method_1_code 23 = .ok (.return_, 1) := by decide +kernel
set_option maxRecDepth 65536 in
set_option maxHeartbeats 40000000 in
theorem rmI (l : Launch) (Z : State) (a0 : Array Value) (hw : ∀ d ∈ tables_1, d.before a0 Z = true) (ws : List Jvm.Cond) (a1 : Addr) (p2 : Int32) (h0 : Heap) (n0 : Nat) (Z0 : n0 ≤ h0.size) (E_a1 : Exa Z h0 a1 "com/example/bitstrata/bitstrata/ArrayContainer") (g_a1 : n0 ≤ a1) (F_v : Fld Z h0 a1 "com/example/bitstrata/bitstrata/ArrayContainer" "values" "[C" .null) (F_c : Fld Z h0 a1 "com/example/bitstrata/bitstrata/ArrayContainer" "cardinality" "I" (.int (0 : Int32))) (hk : nar .char p2 = p2) :
    MetFree l (⟨"com/example/bitstrata/bitstrata/ArrayContainer", "<init>", "(C)V"⟩ : MethodName) (head1 (Jvm.Cond.code (⟨"com/example/bitstrata/bitstrata/ArrayContainer", "<init>", "(C)V"⟩ : MethodName) prog_1_method_1_code 2 none :: ws) ({ frames := 1, cells := 1, slots := 4, locals := 12 } : Room)) (fun a U => a = #[(.ref a1), (.int p2)] ∧ Z.Warmed39 U.vm ∧ U.heap = h0) (fun _ _ _ _ _ => True) (fun _ U o U' => ∃ v L, o = .returned v ∧ QI Z a1 p2 h0 n0 v U'.heap L ∧ FrameEnd U o U' L ({ frames := 1, cells := 1, slots := 4, locals := 12 } : Room).cells ({ frames := 1, cells := 1, slots := 4, locals := 12 } : Room).slots) := by
  refine MetFree.of_bodySF (plainFor_of_name pn_0) hisR ?_
  intro p e s m args below meth c s₁ Bd hml0 hP hK
  obtain ⟨rfl, hZ, hh⟩ := hP
  have hx := Bd.exec
  have hby := Bd.bytes
  have hml : c.maxLocals = 2 := hml0
  have hown : s.vm.findClass "com/example/bitstrata/bitstrata/ArrayContainer" = some m.cls := findClass_of_methodNamed Bd.named
  have hnm := (name_of_methodNamed Bd.named Bd.method).1
  have X0 : Stand p l e ({ frames := 1, cells := 1, slots := 4, locals := 12 } : Room) s m #[(.ref a1), (.int p2)] below meth c s₁ [] 0 0 := Stand.of_body Bd
  have e0 : s₁.heap = h0 := by rw [← hh, Bd.state]; rfl
  have N0 := Fr.nil n0
  have pre0 : ∀ tg, Steps p.tables e below (s₁.setTop (mkF m 0 #[rv a1, iv p2] [])) tg → Steps p.tables e below (s₁.setTop (entryFrame m #[(.ref a1), (.int p2)] 2)) tg := fun tg k => castTop (ef_I m a1 p2) k
  obtain ⟨T1, X1, e1, st1⟩ := initO X0 hx hZ hown (hw _ (List.mem_of_getElem? (i := 6) rfl)) (hw _ (List.mem_of_getElem? (i := 7) rfl)) (hw _ (List.mem_of_getElem? (i := 8) rfl)) e0 (g := (mkF m 1 #[rv a1, iv p2] [(.ref a1)])) rfl (by rw [hml]; rfl) rfl (hb hby d1_1) (by decide) (W := 0) (by show 2 * 0 + _ ≤ _; exact Nat.le_of_eq rfl) (by decide)
  obtain ⟨T2, h2, k2, X2, e2, E2, A2, st2⟩ := newP X1 hx hZ (hw _ (List.mem_of_getElem? (i := 9) rfl)) e1 (g := (mkF m 6 #[rv a1, iv p2] [(.int (4 : Int32)), (.ref a1)])) rfl (hb hby d1_6) rfl (by decide) (cap := 4) (by decide) (by decide) (by decide) (by decide)
  obtain ⟨b2, g2⟩ : ∃ z, z = h0.size := ⟨_, rfl⟩
  rw [← g2] at A2 st2
  have g_b2 : n0 ≤ b2 := Nat.le_trans Z0 (Nat.le_of_eq g2.symm)
  have sz_b2 : h0.size ≤ b2 := Nat.le_trans ((Keep.refl h0 [a1])).1 (Nat.le_of_eq g2.symm)
  have ne_a1_b2 : a1 ≠ b2 := Nat.ne_of_lt (Nat.lt_of_lt_of_le F_c.lt (Nat.le_of_eq g2.symm))
  have V_b2 : Arv Z h2 b2 k2 .char (4 : Int32) [(.int (0 : Int32)), (.int (0 : Int32)), (.int (0 : Int32)), (.int (0 : Int32))] (.int (0 : Int32)) := (Arv.new A2 (by decide)).pad (pad_rep [] (.int (0 : Int32)) 4)
  have Fn_3 := (F_v.ext E2)
  have En_4 := (E_a1.ext E2)
  obtain ⟨T5, h5, X5, e5, W5, st5⟩ := putF X2 hx hZ hown (host := "") (Or.inl (hw _ (List.mem_of_getElem? (i := 10) rfl))) Via.refl e2 Fn_3 En_4 (Or.inl (hw _ (List.mem_of_getElem? (i := 11) rfl))) (hw _ (List.mem_of_getElem? (i := 1) rfl)) (ty := (.array .char)) (by decide) rfl rfl (g := (mkF m 8 #[rv a1, iv p2] [(.ref b2), (.ref a1)])) rfl rfl (hb hby d1_8)
  have Fw5 := Fn_3.same W5
  have N5 := Fr.snoc X5 N0 g_a1
  obtain ⟨T6, X6, e6, st6⟩ := getF X5 hx hZ hown (host := "") (Or.inl (hw _ (List.mem_of_getElem? (i := 10) rfl))) Via.refl e5 Fw5 (g := (mkF m 12 #[rv a1, iv p2] [(.ref a1)])) rfl rfl (hb hby d1_12)
  have Vn_7 := (V_b2.other W5 (Ne.symm ne_a1_b2))
  obtain ⟨cl8, Ar8, q8, S8, M8, H8, G8⟩ := id Vn_7
  have hin8 : ¬ ((0 : Int32) < 0 ∨ cl8.slots.size ≤ ((0 : Int32)).toNatClampNeg) := inb_of S8 ⟨by decide, by decide⟩
  obtain ⟨T8, h8, X8, e8, W8, st8⟩ := stC X6 hx hZ e6 Ar8 (j := (0 : Int32)) hin8 (g := (mkF m 17 #[rv a1, iv p2] [(.int p2), (.int (0 : Int32)), (.ref b2)])) rfl rfl (hb hby d1_17)
  have V8 : Arv Z h8 b2 k2 .char (4 : Int32) [(.int (nar .char p2)), (.int (0 : Int32)), (.int (0 : Int32)), (.int (0 : Int32))] (.int (0 : Int32)) := Arv.set Ar8 q8 S8 M8 H8 G8 (fits_nar_char _) W8 0 rfl (Nat.le_of_ble_eq_true rfl)
  have N8 := Fr.snoc X8 N5 g_b2
  have Fn_9 := (((F_c.ext E2).other W5 (Or.inr (slot_ne (Or.inl (hw _ (List.mem_of_getElem? (i := 13) rfl))) (Or.inl (hw _ (List.mem_of_getElem? (i := 11) rfl))) (by decide) (t := .int) (t' := (.array .char)) (by decide) (by decide)))).other W8 (Or.inl ne_a1_b2))
  have En_10 := ((En_4.wr W5).wr W8)
  obtain ⟨T11, h11, X11, e11, W11, st11⟩ := putF X8 hx hZ hown (host := "") (Or.inl (hw _ (List.mem_of_getElem? (i := 12) rfl))) Via.refl e8 Fn_9 En_10 (Or.inl (hw _ (List.mem_of_getElem? (i := 13) rfl))) (hw _ (List.mem_of_getElem? (i := 1) rfl)) (ty := .int) (by decide) rfl rfl (g := (mkF m 20 #[rv a1, iv p2] [(.int (1 : Int32)), (.ref a1)])) rfl rfl (hb hby d1_20)
  have Fw11 := Fn_9.same W11
  have N11 := Fr.snoc X11 N8 g_a1
  have pre12 : ∀ tg, own_S p e below T11 m 23 #[rv a1, iv p2] [] tg → Steps p.tables e below (s₁.setTop (entryFrame m #[(.ref a1), (.int p2)] 2)) tg := fun tg k => pre0 tg (by
    show own_S p e below s₁ m 0 #[rv a1, iv p2] [] _
    refine XS.aloadN X0.here hx rfl (hb hby d1_0) rfl rfl ?_
    refine st1 _ ?_
    refine XS.aloadN X1.here hx rfl (hb hby d1_4) rfl rfl ?_
    show own_S p e below T1 m 5 #[rv a1, iv p2] [(.ref a1)] _
    refine XS.iconst X1.here hx rfl (hb hby d1_5) ?_
    refine st2 _ ?_
    refine st5 _ ?_
    show own_S p e below T5 m 11 #[rv a1, iv p2] [] _
    refine XS.aloadN X5.here hx rfl (hb hby d1_11) rfl rfl ?_
    refine st6 _ ?_
    refine XS.iconst X6.here hx rfl (hb hby d1_15) ?_
    show own_S p e below T6 m 16 #[rv a1, iv p2] [(.int (0 : Int32)), (.ref b2)] _
    refine XS.iloadN X6.here hx rfl (hb hby d1_16) rfl ?_
    refine st8 _ ?_
    refine XS.aloadN X8.here hx rfl (hb hby d1_18) rfl rfl ?_
    show own_S p e below T8 m 19 #[rv a1, iv p2] [(.ref a1)] _
    refine XS.iconst X8.here hx rfl (hb hby d1_19) ?_
    refine st11 _ ?_
    exact k)
  obtain ⟨fs, hr, hrun, hended, hW, hsame⟩ := X11.leave (v := none) (fun _ => rfl)
  refine ⟨_, _, pre12 _ ?_, hrun, hended, _, _, rfl, ?_, ⟨_, rfl⟩, hW, hsame.mono (by decide) (by decide)⟩
  · show own_S p e below T11 m 23 #[rv a1, iv p2] [] _
    exact X11.returnOut hx Bd.returns (hb hby d1_23) hr
  · show QI Z a1 p2 h0 n0 _ T11.heap _
    rw [e11]
    have En_13 := (En_10.wr W11)
    have Fn_14 := ((Fw5.other W8 (Or.inl ne_a1_b2)).other W11 (Or.inr (slot_ne (Or.inl (hw _ (List.mem_of_getElem? (i := 11) rfl))) (Or.inl (hw _ (List.mem_of_getElem? (i := 13) rfl))) (by decide) (t := (.array .char)) (t' := .int) (by decide) (by decide))))
    have Vn_15 := (V8.other W11 (Ne.symm ne_a1_b2))
    rw [hk] at Vn_15
    exact ⟨b2, _, rfl, N11, (((((Keep.refl h0 [a1]).ext E2).wr W5 (Or.inl (List.mem_of_getElem? (i := 0) rfl))).wr W8 (Or.inr sz_b2)).wr W11 (Or.inl (List.mem_of_getElem? (i := 0) rfl))), En_13, Fn_14, Fw11, Vn_15, g_b2, sz_b2⟩
theorem pn_1 : plainName "java/util/Arrays" = true := by first | (simp [plainName, overriddenIn]; done) | decide +kernel
theorem ef_RC (m : MethodId) (p1 : Int32) (p2 : Int32) (p3 : Int32) : entryFrame m #[(.int p1), (.int p2), (.int p3)] 3 = mkF m 0 #[iv p1, iv p2, iv p3] [] := by first | (simp [entryFrame, mkF, argsToLocals, Value.category]; done) | rfl
def QRC (Z : State) (p1 : Int32) (p2 : Int32) (p3 : Int32) (h0 : Heap) (n0 : Nat) (v : Option Value) (h : Heap) (L : List Loc) : Prop := v = none ∧ Fr n0 L ∧ h = h0
theorem d8_0 : decode jdk_65_method_30_code 0 = .ok (.iload_n 1, 1) := by decide +kernel
theorem d8_1 : decode jdk_65_method_30_code 1 = .ok (.iload_n 2, 1) := by decide +kernel
theorem d8_2 : decode jdk_65_method_30_code 2 = .ok (.if_icmp .le 44, 3) := by decide +kernel
theorem d8_46 : decode jdk_65_method_30_code 46 = .ok (.iload_n 1, 1) := by decide +kernel
theorem d8_47 : decode jdk_65_method_30_code 47 = .ok (.ifCond .ge 12, 3) := by decide +kernel
theorem d8_59 : decode jdk_65_method_30_code 59 = .ok (.iload_n 2, 1) := by decide +kernel
theorem d8_60 : decode jdk_65_method_30_code 60 = .ok (.iload_n 0, 1) := by decide +kernel
theorem d8_61 : decode jdk_65_method_30_code 61 = .ok (.if_icmp .le 12, 3) := by decide +kernel
theorem d8_73 : decode jdk_65_method_30_code 73 = .ok (.return_, 1) := by decide +kernel
set_option maxRecDepth 65536 in
set_option maxHeartbeats 40000000 in
theorem rmRC (l : Launch) (Z : State) (a0 : Array Value) (hw : ∀ d ∈ tables_1, d.before a0 Z = true) (ws : List Jvm.Cond) (p1 : Int32) (p2 : Int32) (p3 : Int32) (h0 : Heap) (n0 : Nat) (Z0 : n0 ≤ h0.size) (q1 : ¬ p3 < p2) (q2 : ¬ p2 < (0 : Int32)) (q3 : ¬ p1 < p3) :
    MetFree l (⟨"java/util/Arrays", "rangeCheck", "(III)V"⟩ : MethodName) (head1 (Jvm.Cond.code (⟨"java/util/Arrays", "rangeCheck", "(III)V"⟩ : MethodName) jdk_65_method_30_code 3 none :: ws) ({ frames := 0, cells := 0, slots := 0, locals := 0 } : Room)) (fun a U => a = #[(.int p1), (.int p2), (.int p3)] ∧ Z.Warmed39 U.vm ∧ U.heap = h0) (fun _ _ _ _ _ => True) (fun _ U o U' => ∃ v L, o = .returned v ∧ QRC Z p1 p2 p3 h0 n0 v U'.heap L ∧ FrameEnd U o U' L ({ frames := 0, cells := 0, slots := 0, locals := 0 } : Room).cells ({ frames := 0, cells := 0, slots := 0, locals := 0 } : Room).slots) := by
  refine MetFree.of_bodySF (plainFor_of_name pn_1) hisR ?_
  intro p e s m args below meth c s₁ Bd hml0 hP hK
  obtain ⟨rfl, hZ, hh⟩ := hP
  have hx := Bd.exec
  have hby := Bd.bytes
  have hml : c.maxLocals = 3 := hml0
  have hown : s.vm.findClass "java/util/Arrays" = some m.cls := findClass_of_methodNamed Bd.named
  have hnm := (name_of_methodNamed Bd.named Bd.method).1
  have X0 : Stand p l e ({ frames := 0, cells := 0, slots := 0, locals := 0 } : Room) s m #[(.int p1), (.int p2), (.int p3)] below meth c s₁ [] 0 0 := Stand.of_body Bd
  have e0 : s₁.heap = h0 := by rw [← hh, Bd.state]; rfl
  have N0 := Fr.nil n0
  have pre0 : ∀ tg, Steps p.tables e below (s₁.setTop (mkF m 0 #[iv p1, iv p2, iv p3] [])) tg → Steps p.tables e below (s₁.setTop (entryFrame m #[(.int p1), (.int p2), (.int p3)] 3)) tg := fun tg k => castTop (ef_RC m p1 p2 p3) k
  have pre1 : ∀ tg, own_S p e below s₁ m 73 #[iv p1, iv p2, iv p3] [] tg → Steps p.tables e below (s₁.setTop (entryFrame m #[(.int p1), (.int p2), (.int p3)] 3)) tg := fun tg k => pre0 tg (by
    show own_S p e below s₁ m 0 #[iv p1, iv p2, iv p3] [] _
    refine XS.iloadN X0.here hx rfl (hb hby d8_0) rfl ?_
    refine XS.iloadN X0.here hx rfl (hb hby d8_1) rfl ?_
    refine XS.icmpYes X0.here hx rfl (pc0 := 2) (pc' := 46) rfl (hb hby d8_2) rfl (flt q1).2.2.2 (by decide) (by decide) ?_
    show own_S p e below s₁ m 46 #[iv p1, iv p2, iv p3] [] _
    refine XS.iloadN X0.here hx rfl (hb hby d8_46) rfl ?_
    refine XS.ifYes X0.here hx rfl (pc0 := 47) (pc' := 59) rfl (hb hby d8_47) rfl ((if0 _ _).trans (flt q2).2.1) (by decide) (by decide) ?_
    refine XS.iloadN X0.here hx rfl (hb hby d8_59) rfl ?_
    show own_S p e below s₁ m 60 #[iv p1, iv p2, iv p3] [(.int p3)] _
    refine XS.iloadN X0.here hx rfl (hb hby d8_60) rfl ?_
    refine XS.icmpYes X0.here hx rfl (pc0 := 61) (pc' := 73) rfl (hb hby d8_61) rfl (flt q3).2.2.2 (by decide) (by decide) ?_
    exact k)
  obtain ⟨fs, hr, hrun, hended, hW, hsame⟩ := X0.leave (v := none) (fun _ => rfl)
  refine ⟨_, _, pre1 _ ?_, hrun, hended, _, _, rfl, ?_, ⟨_, rfl⟩, hW, hsame.mono (by decide) (by decide)⟩
  · show own_S p e below s₁ m 73 #[iv p1, iv p2, iv p3] [] _
    exact X0.returnOut hx Bd.returns (hb hby d8_73) hr
  · show QRC Z p1 p2 p3 h0 n0 _ s₁.heap _
    rw [e0]
    exact ⟨rfl, N0, rfl⟩
theorem ef_B1 (m : MethodId) (t : Addr) (key : Int32) : entryFrame m #[(.ref t), (.int (0 : Int32)), (.int (1 : Int32)), (.int key)] 8 = mkF m 0 #[rv t, iv (0 : Int32), iv (1 : Int32), iv key, .unset, .unset, .unset, .unset] [] := by first | (simp [entryFrame, mkF, argsToLocals, Value.category]; done) | rfl
def QB1 (Z : State) (t : Addr) (key : Int32) (k : ClassId) (x0 : Int32) (h0 : Heap) (n0 : Nat) (v : Option Value) (h : Heap) (L : List Loc) : Prop := ∃ r : Int32, v = some (.int r) ∧ Fr n0 L ∧ h = h0 ∧ ((r = 0 ∧ x0 = key) ∨ (r = -1 ∧ key < x0) ∨ (r = -2 ∧ x0 < key))
theorem d9_0 : decode jdk_65_method_65_code 0 = .ok (.iload_n 1, 1) := by decide +kernel
theorem d9_1 : decode jdk_65_method_65_code 1 = .ok (.istore 4, 2) := by decide +kernel
theorem d9_3 : decode jdk_65_method_65_code 3 = .ok (.iload_n 2, 1) := by decide +kernel
theorem d9_4 : decode jdk_65_method_65_code 4 = .ok (.iconst 1, 1) := by decide +kernel
theorem d9_5 : decode jdk_65_method_65_code 5 = .ok (.isub, 1) := by decide +kernel
theorem d9_6 : decode jdk_65_method_65_code 6 = .ok (.istore 5, 2) := by decide +kernel
theorem d9_8 : decode jdk_65_method_65_code 8 = .ok (.iload 4, 2) := by decide +kernel
theorem d9_10 : decode jdk_65_method_65_code 10 = .ok (.iload 5, 2) := by decide +kernel
theorem d9_12 : decode jdk_65_method_65_code 12 = .ok (.if_icmp .gt 54, 3) := by decide +kernel
theorem d9_15 : decode jdk_65_method_65_code 15 = .ok (.iload 4, 2) := by decide +kernel
theorem d9_17 : decode jdk_65_method_65_code 17 = .ok (.iload 5, 2) := by decide +kernel
theorem d9_19 : decode jdk_65_method_65_code 19 = .ok (.iadd, 1) := by decide +kernel
theorem d9_20 : decode jdk_65_method_65_code 20 = .ok (.iconst 1, 1) := by decide +kernel
theorem d9_21 : decode jdk_65_method_65_code 21 = .ok (.iushr, 1) := by decide +kernel
theorem d9_22 : decode jdk_65_method_65_code 22 = .ok (.istore 6, 2) := by decide +kernel
theorem d9_24 : decode jdk_65_method_65_code 24 = .ok (.aload_n 0, 1) := by decide +kernel
theorem d9_25 : decode jdk_65_method_65_code 25 = .ok (.iload 6, 2) := by decide +kernel
theorem d9_27 : decode jdk_65_method_65_code 27 = .ok (.caload, 1) := by decide +kernel
theorem d9_28 : decode jdk_65_method_65_code 28 = .ok (.istore 7, 2) := by decide +kernel
theorem d9_30 : decode jdk_65_method_65_code 30 = .ok (.iload 7, 2) := by decide +kernel
theorem d9_32 : decode jdk_65_method_65_code 32 = .ok (.iload_n 3, 1) := by decide +kernel
theorem d9_33 : decode jdk_65_method_65_code 33 = .ok (.if_icmp .ge 12, 3) := by decide +kernel
theorem d9_36 : decode jdk_65_method_65_code 36 = .ok (.iload 6, 2) := by decide +kernel
theorem d9_38 : decode jdk_65_method_65_code 38 = .ok (.iconst 1, 1) := by decide +kernel
theorem d9_39 : decode jdk_65_method_65_code 39 = .ok (.iadd, 1) := by decide +kernel
theorem d9_40 : decode jdk_65_method_65_code 40 = .ok (.istore 4, 2) := by decide +kernel
theorem d9_42 : decode jdk_65_method_65_code 42 = .ok (.goto 21, 3) := by decide +kernel
theorem d9_63 : decode jdk_65_method_65_code 63 = .ok (.goto (-55), 3) := by decide +kernel
theorem d9_66 : decode jdk_65_method_65_code 66 = .ok (.iload 4, 2) := by decide +kernel
theorem d9_68 : decode jdk_65_method_65_code 68 = .ok (.iconst 1, 1) := by decide +kernel
theorem d9_69 : decode jdk_65_method_65_code 69 = .ok (.iadd, 1) := by decide +kernel
theorem d9_70 : decode jdk_65_method_65_code 70 = .ok (.ineg, 1) := by decide +kernel
theorem d9_71 : decode jdk_65_method_65_code 71 = .ok (.ireturn, 1) := by decide +kernel
theorem d9_45 : decode jdk_65_method_65_code 45 = .ok (.iload 7, 2) := by decide +kernel
theorem d9_47 : decode jdk_65_method_65_code 47 = .ok (.iload_n 3, 1) := by decide +kernel
theorem d9_48 : decode jdk_65_method_65_code 48 = .ok (.if_icmp .le 12, 3) := by decide +kernel
theorem d9_51 : decode jdk_65_method_65_code 51 = .ok (.iload 6, 2) := by decide +kernel
theorem d9_53 : decode jdk_65_method_65_code 53 = .ok (.iconst 1, 1) := by decide +kernel
theorem d9_54 : decode jdk_65_method_65_code 54 = .ok (.isub, 1) := by decide +kernel
theorem d9_55 : decode jdk_65_method_65_code 55 = .ok (.istore 5, 2) := by decide +kernel
theorem d9_57 : decode jdk_65_method_65_code 57 = .ok (.goto 6, 3) := by decide +kernel
theorem d9_60 : decode jdk_65_method_65_code 60 = .ok (.iload 6, 2) := by decide +kernel
theorem d9_62 : decode jdk_65_method_65_code 62 = .ok (.ireturn, 1) := by decide +kernel
set_option maxRecDepth 65536 in
set_option maxHeartbeats 40000000 in
theorem rmB1 (l : Launch) (Z : State) (a0 : Array Value) (hw : ∀ d ∈ tables_1, d.before a0 Z = true) (ws : List Jvm.Cond) (t : Addr) (key : Int32) (k : ClassId) (x0 : Int32) (h0 : Heap) (n0 : Nat) (Z0 : n0 ≤ h0.size) (V_t : Arv Z h0 t k .char (4 : Int32) [(.int x0), (.int (0 : Int32)), (.int (0 : Int32)), (.int (0 : Int32))] (.int (0 : Int32))) :
    MetFree l (⟨"java/util/Arrays", "binarySearch0", "([CIIC)I"⟩ : MethodName) (head1 (Jvm.Cond.code (⟨"java/util/Arrays", "binarySearch0", "([CIIC)I"⟩ : MethodName) jdk_65_method_65_code 8 (some .int) :: ws) ({ frames := 0, cells := 0, slots := 0, locals := 0 } : Room)) (fun a U => a = #[(.ref t), (.int (0 : Int32)), (.int (1 : Int32)), (.int key)] ∧ Z.Warmed39 U.vm ∧ U.heap = h0) (fun _ _ _ _ _ => True) (fun _ U o U' => ∃ v L, o = .returned v ∧ QB1 Z t key k x0 h0 n0 v U'.heap L ∧ FrameEnd U o U' L ({ frames := 0, cells := 0, slots := 0, locals := 0 } : Room).cells ({ frames := 0, cells := 0, slots := 0, locals := 0 } : Room).slots) := by
  refine MetFree.of_bodySF (plainFor_of_name pn_1) hisR ?_
  intro p e s m args below meth c s₁ Bd hml0 hP hK
  obtain ⟨rfl, hZ, hh⟩ := hP
  have hx := Bd.exec
  have hby := Bd.bytes
  have hml : c.maxLocals = 8 := hml0
  have hown : s.vm.findClass "java/util/Arrays" = some m.cls := findClass_of_methodNamed Bd.named
  have hnm := (name_of_methodNamed Bd.named Bd.method).1
  have X0 : Stand p l e ({ frames := 0, cells := 0, slots := 0, locals := 0 } : Room) s m #[(.ref t), (.int (0 : Int32)), (.int (1 : Int32)), (.int key)] below meth c s₁ [] 0 0 := Stand.of_body Bd
  have e0 : s₁.heap = h0 := by rw [← hh, Bd.state]; rfl
  have N0 := Fr.nil n0
  have pre0 : ∀ tg, Steps p.tables e below (s₁.setTop (mkF m 0 #[rv t, iv (0 : Int32), iv (1 : Int32), iv key, .unset, .unset, .unset, .unset] [])) tg → Steps p.tables e below (s₁.setTop (entryFrame m #[(.ref t), (.int (0 : Int32)), (.int (1 : Int32)), (.int key)] 8)) tg := fun tg k => castTop (ef_B1 m t key) k
  obtain ⟨cl1, Ar1, q1, S1, M1, H1, G1⟩ := id V_t
  have hin1 : ¬ ((0 : Int32) < 0 ∨ cl1.slots.size ≤ ((0 : Int32)).toNatClampNeg) := inb_of S1 ⟨by decide, by decide⟩
  have hat1 : cl1.slots[((0 : Int32)).toNatClampNeg]? = some (.int x0) := H1.at hin1 rfl
  have pre3 : ∀ tg, own_S p e below s₁ m 33 #[rv t, iv (0 : Int32), iv (1 : Int32), iv key, iv (0 : Int32), iv (0 : Int32), iv (0 : Int32), iv x0] [(.int key), (.int x0)] tg → Steps p.tables e below (s₁.setTop (entryFrame m #[(.ref t), (.int (0 : Int32)), (.int (1 : Int32)), (.int key)] 8)) tg := fun tg k => pre0 tg (by
    show own_S p e below s₁ m 0 #[rv t, iv (0 : Int32), iv (1 : Int32), iv key, .unset, .unset, .unset, .unset] [] _
    refine XS.iloadN X0.here hx rfl (hb hby d9_0) rfl ?_
    refine XS.istore X0.here hx rfl (hb hby d9_1) rfl (l' := #[rv t, iv (0 : Int32), iv (1 : Int32), iv key, iv (0 : Int32), .unset, .unset, .unset]) rfl ?_
    refine XS.iloadN X0.here hx rfl (hb hby d9_3) rfl ?_
    show own_S p e below s₁ m 4 #[rv t, iv (0 : Int32), iv (1 : Int32), iv key, iv (0 : Int32), .unset, .unset, .unset] [(.int (1 : Int32))] _
    refine XS.iconst X0.here hx rfl (hb hby d9_4) ?_
    refine XS.isub X0.here hx rfl (hb hby d9_5) rfl ?_
    refine XS.istore X0.here hx rfl (hb hby d9_6) rfl (l' := #[rv t, iv (0 : Int32), iv (1 : Int32), iv key, iv (0 : Int32), iv (0 : Int32), .unset, .unset]) rfl ?_
    show own_S p e below s₁ m 8 #[rv t, iv (0 : Int32), iv (1 : Int32), iv key, iv (0 : Int32), iv (0 : Int32), .unset, .unset] [] _
    refine XS.iload X0.here hx rfl (hb hby d9_8) rfl ?_
    refine XS.iload X0.here hx rfl (hb hby d9_10) rfl ?_
    refine XS.icmpNo X0.here hx rfl (hb hby d9_12) rfl (flt (by decide : ¬ ((0 : Int32) < (0 : Int32)))).2.2.1 ?_
    show own_S p e below s₁ m 15 #[rv t, iv (0 : Int32), iv (1 : Int32), iv key, iv (0 : Int32), iv (0 : Int32), .unset, .unset] [] _
    refine XS.iload X0.here hx rfl (hb hby d9_15) rfl ?_
    refine XS.iload X0.here hx rfl (hb hby d9_17) rfl ?_
    refine XS.iadd X0.here hx rfl (hb hby d9_19) rfl ?_
    show own_S p e below s₁ m 20 #[rv t, iv (0 : Int32), iv (1 : Int32), iv key, iv (0 : Int32), iv (0 : Int32), .unset, .unset] [(.int (0 : Int32))] _
    refine XS.iconst X0.here hx rfl (hb hby d9_20) ?_
    refine XS.iushr X0.here hx rfl (hb hby d9_21) rfl ?_
    refine XS.istore X0.here hx rfl (hb hby d9_22) rfl (l' := #[rv t, iv (0 : Int32), iv (1 : Int32), iv key, iv (0 : Int32), iv (0 : Int32), iv (0 : Int32), .unset]) rfl ?_
    show own_S p e below s₁ m 24 #[rv t, iv (0 : Int32), iv (1 : Int32), iv key, iv (0 : Int32), iv (0 : Int32), iv (0 : Int32), .unset] [] _
    refine XS.aloadN X0.here hx rfl (hb hby d9_24) rfl rfl ?_
    refine XS.iload X0.here hx rfl (hb hby d9_25) rfl ?_
    refine X0.caload hx (j := (0 : Int32)) (v := (.int x0)) (by rw [e0]; exact Ar1.1) (State.isArrayOf_alike hZ.alike Ar1.2.1) Ar1.2.2 hin1 hat1 (g := (mkF m 27 #[rv t, iv (0 : Int32), iv (1 : Int32), iv key, iv (0 : Int32), iv (0 : Int32), iv (0 : Int32), .unset] [(.int (0 : Int32)), (.ref t)])) rfl rfl (hb hby d9_27) _ ?_
    show own_S p e below s₁ m 28 #[rv t, iv (0 : Int32), iv (1 : Int32), iv key, iv (0 : Int32), iv (0 : Int32), iv (0 : Int32), .unset] [(.int x0)] _
    refine XS.istore X0.here hx rfl (hb hby d9_28) rfl (l' := #[rv t, iv (0 : Int32), iv (1 : Int32), iv key, iv (0 : Int32), iv (0 : Int32), iv (0 : Int32), iv x0]) rfl ?_
    refine XS.iload X0.here hx rfl (hb hby d9_30) rfl ?_
    refine XS.iloadN X0.here hx rfl (hb hby d9_32) rfl ?_
    exact k)
  by_cases hc33_2 : x0 < key
  ·  -- pc 33 yes
    have pre4 : ∀ tg, own_S p e below s₁ m 71 #[rv t, iv (0 : Int32), iv (1 : Int32), iv key, iv (1 : Int32), iv (0 : Int32), iv (0 : Int32), iv x0] [(.int (-2 : Int32))] tg → Steps p.tables e below (s₁.setTop (entryFrame m #[(.ref t), (.int (0 : Int32)), (.int (1 : Int32)), (.int key)] 8)) tg := fun tg k => pre3 tg (by
      show own_S p e below s₁ m 33 #[rv t, iv (0 : Int32), iv (1 : Int32), iv key, iv (0 : Int32), iv (0 : Int32), iv (0 : Int32), iv x0] [(.int key), (.int x0)] _
      refine XS.icmpNo X0.here hx rfl (hb hby d9_33) rfl (tlt hc33_2).2.1 ?_
      refine XS.iload X0.here hx rfl (hb hby d9_36) rfl ?_
      refine XS.iconst X0.here hx rfl (hb hby d9_38) ?_
      show own_S p e below s₁ m 39 #[rv t, iv (0 : Int32), iv (1 : Int32), iv key, iv (0 : Int32), iv (0 : Int32), iv (0 : Int32), iv x0] [(.int (1 : Int32)), (.int (0 : Int32))] _
      refine XS.iadd X0.here hx rfl (hb hby d9_39) rfl ?_
      refine XS.istore X0.here hx rfl (hb hby d9_40) rfl (l' := #[rv t, iv (0 : Int32), iv (1 : Int32), iv key, iv (1 : Int32), iv (0 : Int32), iv (0 : Int32), iv x0]) rfl ?_
      refine XS.goto X0.here hx rfl (pc0 := 42) (pc' := 63) rfl (hb hby d9_42) (by decide) (by decide) ?_
      show own_S p e below s₁ m 63 #[rv t, iv (0 : Int32), iv (1 : Int32), iv key, iv (1 : Int32), iv (0 : Int32), iv (0 : Int32), iv x0] [] _
      refine XS.goto X0.here hx rfl (pc0 := 63) (pc' := 8) rfl (hb hby d9_63) (by decide) (by decide) ?_
      refine XS.iload X0.here hx rfl (hb hby d9_8) rfl ?_
      refine XS.iload X0.here hx rfl (hb hby d9_10) rfl ?_
      show own_S p e below s₁ m 12 #[rv t, iv (0 : Int32), iv (1 : Int32), iv key, iv (1 : Int32), iv (0 : Int32), iv (0 : Int32), iv x0] [(.int (0 : Int32)), (.int (1 : Int32))] _
      refine XS.icmpYes X0.here hx rfl (pc0 := 12) (pc' := 66) rfl (hb hby d9_12) rfl (tlt (by decide : (0 : Int32) < (1 : Int32))).2.2.1 (by decide) (by decide) ?_
      refine XS.iload X0.here hx rfl (hb hby d9_66) rfl ?_
      refine XS.iconst X0.here hx rfl (hb hby d9_68) ?_
      show own_S p e below s₁ m 69 #[rv t, iv (0 : Int32), iv (1 : Int32), iv key, iv (1 : Int32), iv (0 : Int32), iv (0 : Int32), iv x0] [(.int (1 : Int32)), (.int (1 : Int32))] _
      refine XS.iadd X0.here hx rfl (hb hby d9_69) rfl ?_
      refine XS.ineg X0.here hx rfl (hb hby d9_70) rfl ?_
      exact k)
    obtain ⟨fs, hr, hrun, hended, hW, hsame⟩ := X0.leave (v := some (.int (-2 : Int32))) (fun h => by rw [Bd.returns] at h; cases h)
    refine ⟨_, _, pre4 _ ?_, hrun, hended, _, _, rfl, ?_, ⟨_, rfl⟩, hW, hsame.mono (by decide) (by decide)⟩
    · show own_S p e below s₁ m 71 #[rv t, iv (0 : Int32), iv (1 : Int32), iv key, iv (1 : Int32), iv (0 : Int32), iv (0 : Int32), iv x0] [(.int (-2 : Int32))] _
      exact retI X0 hx Bd.returns (hb hby d9_71) hr
    · show QB1 Z t key k x0 h0 n0 _ s₁.heap _
      rw [e0]
      exact ⟨_, rfl, N0, rfl, (Or.inr (Or.inr (⟨rfl, hc33_2⟩)))⟩
  ·  -- pc 33 no
    have pre6 : ∀ tg, own_S p e below s₁ m 48 #[rv t, iv (0 : Int32), iv (1 : Int32), iv key, iv (0 : Int32), iv (0 : Int32), iv (0 : Int32), iv x0] [(.int key), (.int x0)] tg → Steps p.tables e below (s₁.setTop (entryFrame m #[(.ref t), (.int (0 : Int32)), (.int (1 : Int32)), (.int key)] 8)) tg := fun tg k => pre3 tg (by
      show own_S p e below s₁ m 33 #[rv t, iv (0 : Int32), iv (1 : Int32), iv key, iv (0 : Int32), iv (0 : Int32), iv (0 : Int32), iv x0] [(.int key), (.int x0)] _
      refine XS.icmpYes X0.here hx rfl (pc0 := 33) (pc' := 45) rfl (hb hby d9_33) rfl (flt hc33_2).2.1 (by decide) (by decide) ?_
      refine XS.iload X0.here hx rfl (hb hby d9_45) rfl ?_
      refine XS.iloadN X0.here hx rfl (hb hby d9_47) rfl ?_
      exact k)
    by_cases hc48_5 : key < x0
    ·  -- pc 48 yes
      have pre7 : ∀ tg, own_S p e below s₁ m 71 #[rv t, iv (0 : Int32), iv (1 : Int32), iv key, iv (0 : Int32), iv (-1 : Int32), iv (0 : Int32), iv x0] [(.int (-1 : Int32))] tg → Steps p.tables e below (s₁.setTop (entryFrame m #[(.ref t), (.int (0 : Int32)), (.int (1 : Int32)), (.int key)] 8)) tg := fun tg k => pre6 tg (by
        show own_S p e below s₁ m 48 #[rv t, iv (0 : Int32), iv (1 : Int32), iv key, iv (0 : Int32), iv (0 : Int32), iv (0 : Int32), iv x0] [(.int key), (.int x0)] _
        refine XS.icmpNo X0.here hx rfl (hb hby d9_48) rfl (tlt hc48_5).2.2.2 ?_
        refine XS.iload X0.here hx rfl (hb hby d9_51) rfl ?_
        refine XS.iconst X0.here hx rfl (hb hby d9_53) ?_
        show own_S p e below s₁ m 54 #[rv t, iv (0 : Int32), iv (1 : Int32), iv key, iv (0 : Int32), iv (0 : Int32), iv (0 : Int32), iv x0] [(.int (1 : Int32)), (.int (0 : Int32))] _
        refine XS.isub X0.here hx rfl (hb hby d9_54) rfl ?_
        refine XS.istore X0.here hx rfl (hb hby d9_55) rfl (l' := #[rv t, iv (0 : Int32), iv (1 : Int32), iv key, iv (0 : Int32), iv (-1 : Int32), iv (0 : Int32), iv x0]) rfl ?_
        refine XS.goto X0.here hx rfl (pc0 := 57) (pc' := 63) rfl (hb hby d9_57) (by decide) (by decide) ?_
        show own_S p e below s₁ m 63 #[rv t, iv (0 : Int32), iv (1 : Int32), iv key, iv (0 : Int32), iv (-1 : Int32), iv (0 : Int32), iv x0] [] _
        refine XS.goto X0.here hx rfl (pc0 := 63) (pc' := 8) rfl (hb hby d9_63) (by decide) (by decide) ?_
        refine XS.iload X0.here hx rfl (hb hby d9_8) rfl ?_
        refine XS.iload X0.here hx rfl (hb hby d9_10) rfl ?_
        show own_S p e below s₁ m 12 #[rv t, iv (0 : Int32), iv (1 : Int32), iv key, iv (0 : Int32), iv (-1 : Int32), iv (0 : Int32), iv x0] [(.int (-1 : Int32)), (.int (0 : Int32))] _
        refine XS.icmpYes X0.here hx rfl (pc0 := 12) (pc' := 66) rfl (hb hby d9_12) rfl (tlt (by decide : (-1 : Int32) < (0 : Int32))).2.2.1 (by decide) (by decide) ?_
        refine XS.iload X0.here hx rfl (hb hby d9_66) rfl ?_
        refine XS.iconst X0.here hx rfl (hb hby d9_68) ?_
        show own_S p e below s₁ m 69 #[rv t, iv (0 : Int32), iv (1 : Int32), iv key, iv (0 : Int32), iv (-1 : Int32), iv (0 : Int32), iv x0] [(.int (1 : Int32)), (.int (0 : Int32))] _
        refine XS.iadd X0.here hx rfl (hb hby d9_69) rfl ?_
        refine XS.ineg X0.here hx rfl (hb hby d9_70) rfl ?_
        exact k)
      obtain ⟨fs, hr, hrun, hended, hW, hsame⟩ := X0.leave (v := some (.int (-1 : Int32))) (fun h => by rw [Bd.returns] at h; cases h)
      refine ⟨_, _, pre7 _ ?_, hrun, hended, _, _, rfl, ?_, ⟨_, rfl⟩, hW, hsame.mono (by decide) (by decide)⟩
      · show own_S p e below s₁ m 71 #[rv t, iv (0 : Int32), iv (1 : Int32), iv key, iv (0 : Int32), iv (-1 : Int32), iv (0 : Int32), iv x0] [(.int (-1 : Int32))] _
        exact retI X0 hx Bd.returns (hb hby d9_71) hr
      · show QB1 Z t key k x0 h0 n0 _ s₁.heap _
        rw [e0]
        exact ⟨_, rfl, N0, rfl, (Or.inr (Or.inl ⟨rfl, hc48_5⟩))⟩
    ·  -- pc 48 no
      have pre8 : ∀ tg, own_S p e below s₁ m 62 #[rv t, iv (0 : Int32), iv (1 : Int32), iv key, iv (0 : Int32), iv (0 : Int32), iv (0 : Int32), iv x0] [(.int (0 : Int32))] tg → Steps p.tables e below (s₁.setTop (entryFrame m #[(.ref t), (.int (0 : Int32)), (.int (1 : Int32)), (.int key)] 8)) tg := fun tg k => pre6 tg (by
        show own_S p e below s₁ m 48 #[rv t, iv (0 : Int32), iv (1 : Int32), iv key, iv (0 : Int32), iv (0 : Int32), iv (0 : Int32), iv x0] [(.int key), (.int x0)] _
        refine XS.icmpYes X0.here hx rfl (pc0 := 48) (pc' := 60) rfl (hb hby d9_48) rfl (flt hc48_5).2.2.2 (by decide) (by decide) ?_
        refine XS.iload X0.here hx rfl (hb hby d9_60) rfl ?_
        exact k)
      obtain ⟨fs, hr, hrun, hended, hW, hsame⟩ := X0.leave (v := some (.int (0 : Int32))) (fun h => by rw [Bd.returns] at h; cases h)
      refine ⟨_, _, pre8 _ ?_, hrun, hended, _, _, rfl, ?_, ⟨_, rfl⟩, hW, hsame.mono (by decide) (by decide)⟩
      · show own_S p e below s₁ m 62 #[rv t, iv (0 : Int32), iv (1 : Int32), iv key, iv (0 : Int32), iv (0 : Int32), iv (0 : Int32), iv x0] [(.int (0 : Int32))] _
        exact retI X0 hx Bd.returns (hb hby d9_62) hr
      · show QB1 Z t key k x0 h0 n0 _ s₁.heap _
        rw [e0]
        exact ⟨_, rfl, N0, rfl, (Or.inl ⟨rfl, own_eq hc33_2 hc48_5⟩)⟩
theorem ef_S1 (m : MethodId) (t : Addr) (key : Int32) : entryFrame m #[(.ref t), (.int (0 : Int32)), (.int (1 : Int32)), (.int key)] 4 = mkF m 0 #[rv t, iv (0 : Int32), iv (1 : Int32), iv key] [] := by first | (simp [entryFrame, mkF, argsToLocals, Value.category]; done) | rfl
def QS1 (Z : State) (t : Addr) (key : Int32) (k : ClassId) (x0 : Int32) (h0 : Heap) (n0 : Nat) (v : Option Value) (h : Heap) (L : List Loc) : Prop := ∃ r : Int32, v = some (.int r) ∧ Fr n0 L ∧ h = h0 ∧ ((r = 0 ∧ x0 = key) ∨ (r = -1 ∧ key < x0) ∨ (r = -2 ∧ x0 < key))
theorem d7_0 : decode jdk_65_method_64_code 0 = .ok (.aload_n 0, 1) := by decide +kernel
theorem d7_1 : decode jdk_65_method_64_code 1 = .ok (.arraylength, 1) := by decide +kernel
theorem d7_2 : decode jdk_65_method_64_code 2 = .ok (.iload_n 1, 1) := by decide +kernel
theorem d7_3 : decode jdk_65_method_64_code 3 = .ok (.iload_n 2, 1) := by decide +kernel
theorem d7_4 : decode jdk_65_method_64_code 4 = .ok (.invokestatic 13, 3) := by decide +kernel
theorem pd_0 : parseMethodDescriptor "(III)V" = some ⟨[.int, .int, .int], none⟩ := by decide +kernel
theorem d7_7 : decode jdk_65_method_64_code 7 = .ok (.aload_n 0, 1) := by decide +kernel
theorem d7_8 : decode jdk_65_method_64_code 8 = .ok (.iload_n 1, 1) := by decide +kernel
theorem d7_9 : decode jdk_65_method_64_code 9 = .ok (.iload_n 2, 1) := by decide +kernel
theorem d7_10 : decode jdk_65_method_64_code 10 = .ok (.iload_n 3, 1) := by decide +kernel
theorem d7_11 : decode jdk_65_method_64_code 11 = .ok (.invokestatic 215, 3) := by decide +kernel
theorem pd_1 : parseMethodDescriptor "([CIIC)I" = some ⟨[(.array .char), .int, .int, .char], some .int⟩ := by decide +kernel
theorem d7_14 : decode jdk_65_method_64_code 14 = .ok (.ireturn, 1) := by decide +kernel
set_option maxRecDepth 65536 in
set_option maxHeartbeats 40000000 in
theorem rmS1 (l : Launch) (Z : State) (a0 : Array Value) (hw : ∀ d ∈ tables_1, d.before a0 Z = true) (ws : List Jvm.Cond) (t : Addr) (key : Int32) (k : ClassId) (x0 : Int32) (h0 : Heap) (n0 : Nat) (Z0 : n0 ≤ h0.size) (V_t : Arv Z h0 t k .char (4 : Int32) [(.int x0), (.int (0 : Int32)), (.int (0 : Int32)), (.int (0 : Int32))] (.int (0 : Int32))) :
    MetFree l (⟨"java/util/Arrays", "binarySearch", "([CIIC)I"⟩ : MethodName) (head1 (Jvm.Cond.code (⟨"java/util/Arrays", "binarySearch", "([CIIC)I"⟩ : MethodName) jdk_65_method_64_code 4 (some .int) :: ws) ({ frames := 1, cells := 0, slots := 0, locals := 24 } : Room)) (fun a U => a = #[(.ref t), (.int (0 : Int32)), (.int (1 : Int32)), (.int key)] ∧ Z.Warmed39 U.vm ∧ U.heap = h0) (fun _ _ _ _ _ => True) (fun _ U o U' => ∃ v L, o = .returned v ∧ QS1 Z t key k x0 h0 n0 v U'.heap L ∧ FrameEnd U o U' L ({ frames := 1, cells := 0, slots := 0, locals := 24 } : Room).cells ({ frames := 1, cells := 0, slots := 0, locals := 24 } : Room).slots) := by
  refine MetFree.of_bodySF (plainFor_of_name pn_1) hisR ?_
  intro p e s m args below meth c s₁ Bd hml0 hP hK
  obtain ⟨rfl, hZ, hh⟩ := hP
  have hx := Bd.exec
  have hby := Bd.bytes
  have hml : c.maxLocals = 4 := hml0
  have hown : s.vm.findClass "java/util/Arrays" = some m.cls := findClass_of_methodNamed Bd.named
  have hnm := (name_of_methodNamed Bd.named Bd.method).1
  have X0 : Stand p l e ({ frames := 1, cells := 0, slots := 0, locals := 24 } : Room) s m #[(.ref t), (.int (0 : Int32)), (.int (1 : Int32)), (.int key)] below meth c s₁ [] 0 0 := Stand.of_body Bd
  have e0 : s₁.heap = h0 := by rw [← hh, Bd.state]; rfl
  have N0 := Fr.nil n0
  have pre0 : ∀ tg, Steps p.tables e below (s₁.setTop (mkF m 0 #[rv t, iv (0 : Int32), iv (1 : Int32), iv key] [])) tg → Steps p.tables e below (s₁.setTop (entryFrame m #[(.ref t), (.int (0 : Int32)), (.int (1 : Int32)), (.int key)] 4)) tg := fun tg k => castTop (ef_S1 m t key) k
  obtain ⟨cl1, Ar1, q1, S1, M1, -, -⟩ := id V_t
  obtain ⟨_, _, ⟨T2, L2, k2, n2⟩, -, X2, ⟨Lc2, hQ2, l2, y2, z2⟩, st2⟩ := Jvm.LawKit.callS X0 hx (y := (⟨"java/util/Arrays", "rangeCheck", "(III)V"⟩ : MethodName)) hown (mvT hZ (hw _ (List.mem_of_getElem? (i := 42) rfl))) (mvT hZ (hw _ (List.mem_of_getElem? (i := 43) rfl))) (mvT hZ (hw _ (List.mem_of_getElem? (i := 40) rfl))) (mvT hZ (hw _ (List.mem_of_getElem? (i := 44) rfl))) (by decide) (backOf (W := 0) (rmRC l Z a0 hw [] (4 : Int32) (0 : Int32) (1 : Int32) h0 n0 Z0 (by decide) (by decide) (by decide)) hZ (hw _ (List.mem_of_getElem? (i := 44) rfl)) (hw _ (List.mem_of_getElem? (i := 40) rfl)) (by decide) (by decide)) (g := (mkF m 4 #[rv t, iv (0 : Int32), iv (1 : Int32), iv key] [(.int (1 : Int32)), (.int (0 : Int32)), (.int (4 : Int32))])) rfl (by rw [hml]; rfl) (argsL := [(.int (4 : Int32)), (.int (0 : Int32)), (.int (1 : Int32))]) (rest := []) (lenOf pd_0 rfl) rfl (by show 2 * 0 + _ ≤ _; exact Nat.le_of_eq rfl) (hb hby d7_4) (fun _ _ => ⟨rfl, e0, (by decide : 0 + 0 ≤ _), (by decide : 0 + 0 ≤ _)⟩)
  dsimp only [Pt.U, Pt.locs, Pt.cells, Pt.slots] at X2 l2 y2 z2 st2 hQ2
  subst l2 y2 z2
  obtain ⟨rfl, N2q, e2q⟩ := hQ2
  have N2 := Fr.app N0 N2q
  have e2 : T2.heap = h0 := e2q
  obtain ⟨_, _, ⟨T3, L3, k3, n3⟩, -, X3, ⟨Lc3, hQ3, l3, y3, z3⟩, st3⟩ := Jvm.LawKit.callS X2 hx (y := (⟨"java/util/Arrays", "binarySearch0", "([CIIC)I"⟩ : MethodName)) hown (mvT hZ (hw _ (List.mem_of_getElem? (i := 45) rfl))) (mvT hZ (hw _ (List.mem_of_getElem? (i := 46) rfl))) (mvT hZ (hw _ (List.mem_of_getElem? (i := 40) rfl))) (mvT hZ (hw _ (List.mem_of_getElem? (i := 47) rfl))) (by decide) (backOf (W := 0) (rmB1 l Z a0 hw [] t key k x0 h0 n0 Z0 V_t) hZ (hw _ (List.mem_of_getElem? (i := 47) rfl)) (hw _ (List.mem_of_getElem? (i := 40) rfl)) (by decide) (by decide)) (g := (mkF m 11 #[rv t, iv (0 : Int32), iv (1 : Int32), iv key] [(.int key), (.int (1 : Int32)), (.int (0 : Int32)), (.ref t)])) rfl (by rw [hml]; rfl) (argsL := [(.ref t), (.int (0 : Int32)), (.int (1 : Int32)), (.int key)]) (rest := []) (lenOf pd_1 rfl) rfl (by show 2 * 0 + _ ≤ _; exact Nat.le_of_eq rfl) (hb hby d7_11) (fun _ _ => ⟨rfl, e2, (by decide : 0 + 0 ≤ _), (by decide : 0 + 0 ≤ _)⟩)
  dsimp only [Pt.U, Pt.locs, Pt.cells, Pt.slots] at X3 l3 y3 z3 st3 hQ3
  subst l3 y3 z3
  obtain ⟨r3, rfl, N3q, e3q, hD3⟩ := hQ3
  have N3 := Fr.app N2 N3q
  have e3 : T3.heap = h0 := e3q
  have pre4 : ∀ tg, own_S p e below T3 m 14 #[rv t, iv (0 : Int32), iv (1 : Int32), iv key] [(.int r3)] tg → Steps p.tables e below (s₁.setTop (entryFrame m #[(.ref t), (.int (0 : Int32)), (.int (1 : Int32)), (.int key)] 4)) tg := fun tg k => pre0 tg (by
    show own_S p e below s₁ m 0 #[rv t, iv (0 : Int32), iv (1 : Int32), iv key] [] _
    refine XS.aloadN X0.here hx rfl (hb hby d7_0) rfl rfl ?_
    refine X0.arraylength hx (by rw [e0]; exact Ar1.1) (State.isArrayOf_alike hZ.alike Ar1.2.1) (g := (mkF m 1 #[rv t, iv (0 : Int32), iv (1 : Int32), iv key] [(.ref t)])) rfl rfl (hb hby d7_1) _ ?_
    rw [len_of S1 M1]
    refine XS.iloadN X0.here hx rfl (hb hby d7_2) rfl ?_
    show own_S p e below s₁ m 3 #[rv t, iv (0 : Int32), iv (1 : Int32), iv key] [(.int (0 : Int32)), (.int (4 : Int32))] _
    refine XS.iloadN X0.here hx rfl (hb hby d7_3) rfl ?_
    refine st2 _ ?_
    refine XS.aloadN X2.here hx rfl (hb hby d7_7) rfl rfl ?_
    show own_S p e below T2 m 8 #[rv t, iv (0 : Int32), iv (1 : Int32), iv key] [(.ref t)] _
    refine XS.iloadN X2.here hx rfl (hb hby d7_8) rfl ?_
    refine XS.iloadN X2.here hx rfl (hb hby d7_9) rfl ?_
    refine XS.iloadN X2.here hx rfl (hb hby d7_10) rfl ?_
    show own_S p e below T2 m 11 #[rv t, iv (0 : Int32), iv (1 : Int32), iv key] [(.int key), (.int (1 : Int32)), (.int (0 : Int32)), (.ref t)] _
    refine st3 _ ?_
    exact k)
  obtain ⟨fs, hr, hrun, hended, hW, hsame⟩ := X3.leave (v := some (.int r3)) (fun h => by rw [Bd.returns] at h; cases h)
  refine ⟨_, _, pre4 _ ?_, hrun, hended, _, _, rfl, ?_, ⟨_, rfl⟩, hW, hsame.mono (by decide) (by decide)⟩
  · show own_S p e below T3 m 14 #[rv t, iv (0 : Int32), iv (1 : Int32), iv key] [(.int r3)] _
    exact retI X3 hx Bd.returns (hb hby d7_14) hr
  · show QS1 Z t key k x0 h0 n0 _ T3.heap _
    rw [e3]
    exact ⟨_, rfl, N3, rfl, hD3⟩
theorem ef_B2 (m : MethodId) (t : Addr) (key : Int32) : entryFrame m #[(.ref t), (.int (0 : Int32)), (.int (2 : Int32)), (.int key)] 8 = mkF m 0 #[rv t, iv (0 : Int32), iv (2 : Int32), iv key, .unset, .unset, .unset, .unset] [] := by first | (simp [entryFrame, mkF, argsToLocals, Value.category]; done) | rfl
def QB2 (Z : State) (t : Addr) (key : Int32) (k : ClassId) (x0 : Int32) (x1 : Int32) (h0 : Heap) (n0 : Nat) (v : Option Value) (h : Heap) (L : List Loc) : Prop := ∃ r : Int32, v = some (.int r) ∧ Fr n0 L ∧ h = h0 ∧ ((r = 0 ∧ x0 = key) ∨ (r = 1 ∧ x1 = key) ∨ (r = -1 ∧ key < x0) ∨ (r = -2 ∧ x0 < key ∧ key < x1) ∨ (r = -3 ∧ x1 < key))
set_option maxRecDepth 65536 in
set_option maxHeartbeats 40000000 in
theorem rmB2 (l : Launch) (Z : State) (a0 : Array Value) (hw : ∀ d ∈ tables_1, d.before a0 Z = true) (ws : List Jvm.Cond) (t : Addr) (key : Int32) (k : ClassId) (x0 : Int32) (x1 : Int32) (h0 : Heap) (n0 : Nat) (Z0 : n0 ≤ h0.size) (V_t : Arv Z h0 t k .char (4 : Int32) [(.int x0), (.int x1), (.int (0 : Int32)), (.int (0 : Int32))] (.int (0 : Int32))) :
    MetFree l (⟨"java/util/Arrays", "binarySearch0", "([CIIC)I"⟩ : MethodName) (head1 (Jvm.Cond.code (⟨"java/util/Arrays", "binarySearch0", "([CIIC)I"⟩ : MethodName) jdk_65_method_65_code 8 (some .int) :: ws) ({ frames := 0, cells := 0, slots := 0, locals := 0 } : Room)) (fun a U => a = #[(.ref t), (.int (0 : Int32)), (.int (2 : Int32)), (.int key)] ∧ Z.Warmed39 U.vm ∧ U.heap = h0) (fun _ _ _ _ _ => True) (fun _ U o U' => ∃ v L, o = .returned v ∧ QB2 Z t key k x0 x1 h0 n0 v U'.heap L ∧ FrameEnd U o U' L ({ frames := 0, cells := 0, slots := 0, locals := 0 } : Room).cells ({ frames := 0, cells := 0, slots := 0, locals := 0 } : Room).slots) := by
  refine MetFree.of_bodySF (plainFor_of_name pn_1) hisR ?_
  intro p e s m args below meth c s₁ Bd hml0 hP hK
  obtain ⟨rfl, hZ, hh⟩ := hP
  have hx := Bd.exec
  have hby := Bd.bytes
  have hml : c.maxLocals = 8 := hml0
  have hown : s.vm.findClass "java/util/Arrays" = some m.cls := findClass_of_methodNamed Bd.named
  have hnm := (name_of_methodNamed Bd.named Bd.method).1
  have X0 : Stand p l e ({ frames := 0, cells := 0, slots := 0, locals := 0 } : Room) s m #[(.ref t), (.int (0 : Int32)), (.int (2 : Int32)), (.int key)] below meth c s₁ [] 0 0 := Stand.of_body Bd
  have e0 : s₁.heap = h0 := by rw [← hh, Bd.state]; rfl
  have N0 := Fr.nil n0
  have pre0 : ∀ tg, Steps p.tables e below (s₁.setTop (mkF m 0 #[rv t, iv (0 : Int32), iv (2 : Int32), iv key, .unset, .unset, .unset, .unset] [])) tg → Steps p.tables e below (s₁.setTop (entryFrame m #[(.ref t), (.int (0 : Int32)), (.int (2 : Int32)), (.int key)] 8)) tg := fun tg k => castTop (ef_B2 m t key) k
  obtain ⟨cl1, Ar1, q1, S1, M1, H1, G1⟩ := id V_t
  have hin1 : ¬ ((0 : Int32) < 0 ∨ cl1.slots.size ≤ ((0 : Int32)).toNatClampNeg) := inb_of S1 ⟨by decide, by decide⟩
  have hat1 : cl1.slots[((0 : Int32)).toNatClampNeg]? = some (.int x0) := H1.at hin1 rfl
  have pre3 : ∀ tg, own_S p e below s₁ m 33 #[rv t, iv (0 : Int32), iv (2 : Int32), iv key, iv (0 : Int32), iv (1 : Int32), iv (0 : Int32), iv x0] [(.int key), (.int x0)] tg → Steps p.tables e below (s₁.setTop (entryFrame m #[(.ref t), (.int (0 : Int32)), (.int (2 : Int32)), (.int key)] 8)) tg := fun tg k => pre0 tg (by
    show own_S p e below s₁ m 0 #[rv t, iv (0 : Int32), iv (2 : Int32), iv key, .unset, .unset, .unset, .unset] [] _
    refine XS.iloadN X0.here hx rfl (hb hby d9_0) rfl ?_
    refine XS.istore X0.here hx rfl (hb hby d9_1) rfl (l' := #[rv t, iv (0 : Int32), iv (2 : Int32), iv key, iv (0 : Int32), .unset, .unset, .unset]) rfl ?_
    refine XS.iloadN X0.here hx rfl (hb hby d9_3) rfl ?_
    show own_S p e below s₁ m 4 #[rv t, iv (0 : Int32), iv (2 : Int32), iv key, iv (0 : Int32), .unset, .unset, .unset] [(.int (2 : Int32))] _
    refine XS.iconst X0.here hx rfl (hb hby d9_4) ?_
    refine XS.isub X0.here hx rfl (hb hby d9_5) rfl ?_
    refine XS.istore X0.here hx rfl (hb hby d9_6) rfl (l' := #[rv t, iv (0 : Int32), iv (2 : Int32), iv key, iv (0 : Int32), iv (1 : Int32), .unset, .unset]) rfl ?_
    show own_S p e below s₁ m 8 #[rv t, iv (0 : Int32), iv (2 : Int32), iv key, iv (0 : Int32), iv (1 : Int32), .unset, .unset] [] _
    refine XS.iload X0.here hx rfl (hb hby d9_8) rfl ?_
    refine XS.iload X0.here hx rfl (hb hby d9_10) rfl ?_
    refine XS.icmpNo X0.here hx rfl (hb hby d9_12) rfl (flt (by decide : ¬ ((1 : Int32) < (0 : Int32)))).2.2.1 ?_
    show own_S p e below s₁ m 15 #[rv t, iv (0 : Int32), iv (2 : Int32), iv key, iv (0 : Int32), iv (1 : Int32), .unset, .unset] [] _
    refine XS.iload X0.here hx rfl (hb hby d9_15) rfl ?_
    refine XS.iload X0.here hx rfl (hb hby d9_17) rfl ?_
    refine XS.iadd X0.here hx rfl (hb hby d9_19) rfl ?_
    show own_S p e below s₁ m 20 #[rv t, iv (0 : Int32), iv (2 : Int32), iv key, iv (0 : Int32), iv (1 : Int32), .unset, .unset] [(.int (1 : Int32))] _
    refine XS.iconst X0.here hx rfl (hb hby d9_20) ?_
    refine XS.iushr X0.here hx rfl (hb hby d9_21) rfl ?_
    refine XS.istore X0.here hx rfl (hb hby d9_22) rfl (l' := #[rv t, iv (0 : Int32), iv (2 : Int32), iv key, iv (0 : Int32), iv (1 : Int32), iv (0 : Int32), .unset]) rfl ?_
    show own_S p e below s₁ m 24 #[rv t, iv (0 : Int32), iv (2 : Int32), iv key, iv (0 : Int32), iv (1 : Int32), iv (0 : Int32), .unset] [] _
    refine XS.aloadN X0.here hx rfl (hb hby d9_24) rfl rfl ?_
    refine XS.iload X0.here hx rfl (hb hby d9_25) rfl ?_
    refine X0.caload hx (j := (0 : Int32)) (v := (.int x0)) (by rw [e0]; exact Ar1.1) (State.isArrayOf_alike hZ.alike Ar1.2.1) Ar1.2.2 hin1 hat1 (g := (mkF m 27 #[rv t, iv (0 : Int32), iv (2 : Int32), iv key, iv (0 : Int32), iv (1 : Int32), iv (0 : Int32), .unset] [(.int (0 : Int32)), (.ref t)])) rfl rfl (hb hby d9_27) _ ?_
    show own_S p e below s₁ m 28 #[rv t, iv (0 : Int32), iv (2 : Int32), iv key, iv (0 : Int32), iv (1 : Int32), iv (0 : Int32), .unset] [(.int x0)] _
    refine XS.istore X0.here hx rfl (hb hby d9_28) rfl (l' := #[rv t, iv (0 : Int32), iv (2 : Int32), iv key, iv (0 : Int32), iv (1 : Int32), iv (0 : Int32), iv x0]) rfl ?_
    refine XS.iload X0.here hx rfl (hb hby d9_30) rfl ?_
    refine XS.iloadN X0.here hx rfl (hb hby d9_32) rfl ?_
    exact k)
  by_cases hc33_2 : x0 < key
  ·  -- pc 33 yes
    obtain ⟨cl4, Ar4, q4, S4, M4, H4, G4⟩ := id V_t
    have hin4 : ¬ ((1 : Int32) < 0 ∨ cl4.slots.size ≤ ((1 : Int32)).toNatClampNeg) := inb_of S4 ⟨by decide, by decide⟩
    have hat4 : cl4.slots[((1 : Int32)).toNatClampNeg]? = some (.int x1) := H4.at hin4 rfl
    have pre6 : ∀ tg, own_S p e below s₁ m 33 #[rv t, iv (0 : Int32), iv (2 : Int32), iv key, iv (1 : Int32), iv (1 : Int32), iv (1 : Int32), iv x1] [(.int key), (.int x1)] tg → Steps p.tables e below (s₁.setTop (entryFrame m #[(.ref t), (.int (0 : Int32)), (.int (2 : Int32)), (.int key)] 8)) tg := fun tg k => pre3 tg (by
      show own_S p e below s₁ m 33 #[rv t, iv (0 : Int32), iv (2 : Int32), iv key, iv (0 : Int32), iv (1 : Int32), iv (0 : Int32), iv x0] [(.int key), (.int x0)] _
      refine XS.icmpNo X0.here hx rfl (hb hby d9_33) rfl (tlt hc33_2).2.1 ?_
      refine XS.iload X0.here hx rfl (hb hby d9_36) rfl ?_
      refine XS.iconst X0.here hx rfl (hb hby d9_38) ?_
      show own_S p e below s₁ m 39 #[rv t, iv (0 : Int32), iv (2 : Int32), iv key, iv (0 : Int32), iv (1 : Int32), iv (0 : Int32), iv x0] [(.int (1 : Int32)), (.int (0 : Int32))] _
      refine XS.iadd X0.here hx rfl (hb hby d9_39) rfl ?_
      refine XS.istore X0.here hx rfl (hb hby d9_40) rfl (l' := #[rv t, iv (0 : Int32), iv (2 : Int32), iv key, iv (1 : Int32), iv (1 : Int32), iv (0 : Int32), iv x0]) rfl ?_
      refine XS.goto X0.here hx rfl (pc0 := 42) (pc' := 63) rfl (hb hby d9_42) (by decide) (by decide) ?_
      show own_S p e below s₁ m 63 #[rv t, iv (0 : Int32), iv (2 : Int32), iv key, iv (1 : Int32), iv (1 : Int32), iv (0 : Int32), iv x0] [] _
      refine XS.goto X0.here hx rfl (pc0 := 63) (pc' := 8) rfl (hb hby d9_63) (by decide) (by decide) ?_
      refine XS.iload X0.here hx rfl (hb hby d9_8) rfl ?_
      refine XS.iload X0.here hx rfl (hb hby d9_10) rfl ?_
      show own_S p e below s₁ m 12 #[rv t, iv (0 : Int32), iv (2 : Int32), iv key, iv (1 : Int32), iv (1 : Int32), iv (0 : Int32), iv x0] [(.int (1 : Int32)), (.int (1 : Int32))] _
      refine XS.icmpNo X0.here hx rfl (hb hby d9_12) rfl (flt (by decide : ¬ ((1 : Int32) < (1 : Int32)))).2.2.1 ?_
      refine XS.iload X0.here hx rfl (hb hby d9_15) rfl ?_
      refine XS.iload X0.here hx rfl (hb hby d9_17) rfl ?_
      show own_S p e below s₁ m 19 #[rv t, iv (0 : Int32), iv (2 : Int32), iv key, iv (1 : Int32), iv (1 : Int32), iv (0 : Int32), iv x0] [(.int (1 : Int32)), (.int (1 : Int32))] _
      refine XS.iadd X0.here hx rfl (hb hby d9_19) rfl ?_
      refine XS.iconst X0.here hx rfl (hb hby d9_20) ?_
      refine XS.iushr X0.here hx rfl (hb hby d9_21) rfl ?_
      show own_S p e below s₁ m 22 #[rv t, iv (0 : Int32), iv (2 : Int32), iv key, iv (1 : Int32), iv (1 : Int32), iv (0 : Int32), iv x0] [(.int (1 : Int32))] _
      refine XS.istore X0.here hx rfl (hb hby d9_22) rfl (l' := #[rv t, iv (0 : Int32), iv (2 : Int32), iv key, iv (1 : Int32), iv (1 : Int32), iv (1 : Int32), iv x0]) rfl ?_
      refine XS.aloadN X0.here hx rfl (hb hby d9_24) rfl rfl ?_
      refine XS.iload X0.here hx rfl (hb hby d9_25) rfl ?_
      show own_S p e below s₁ m 27 #[rv t, iv (0 : Int32), iv (2 : Int32), iv key, iv (1 : Int32), iv (1 : Int32), iv (1 : Int32), iv x0] [(.int (1 : Int32)), (.ref t)] _
      refine X0.caload hx (j := (1 : Int32)) (v := (.int x1)) (by rw [e0]; exact Ar4.1) (State.isArrayOf_alike hZ.alike Ar4.2.1) Ar4.2.2 hin4 hat4 (g := (mkF m 27 #[rv t, iv (0 : Int32), iv (2 : Int32), iv key, iv (1 : Int32), iv (1 : Int32), iv (1 : Int32), iv x0] [(.int (1 : Int32)), (.ref t)])) rfl rfl (hb hby d9_27) _ ?_
      refine XS.istore X0.here hx rfl (hb hby d9_28) rfl (l' := #[rv t, iv (0 : Int32), iv (2 : Int32), iv key, iv (1 : Int32), iv (1 : Int32), iv (1 : Int32), iv x1]) rfl ?_
      refine XS.iload X0.here hx rfl (hb hby d9_30) rfl ?_
      show own_S p e below s₁ m 32 #[rv t, iv (0 : Int32), iv (2 : Int32), iv key, iv (1 : Int32), iv (1 : Int32), iv (1 : Int32), iv x1] [(.int x1)] _
      refine XS.iloadN X0.here hx rfl (hb hby d9_32) rfl ?_
      exact k)
    by_cases hc33_5 : x1 < key
    ·  -- pc 33 yes
      have pre7 : ∀ tg, own_S p e below s₁ m 71 #[rv t, iv (0 : Int32), iv (2 : Int32), iv key, iv (2 : Int32), iv (1 : Int32), iv (1 : Int32), iv x1] [(.int (-3 : Int32))] tg → Steps p.tables e below (s₁.setTop (entryFrame m #[(.ref t), (.int (0 : Int32)), (.int (2 : Int32)), (.int key)] 8)) tg := fun tg k => pre6 tg (by
        show own_S p e below s₁ m 33 #[rv t, iv (0 : Int32), iv (2 : Int32), iv key, iv (1 : Int32), iv (1 : Int32), iv (1 : Int32), iv x1] [(.int key), (.int x1)] _
        refine XS.icmpNo X0.here hx rfl (hb hby d9_33) rfl (tlt hc33_5).2.1 ?_
        refine XS.iload X0.here hx rfl (hb hby d9_36) rfl ?_
        refine XS.iconst X0.here hx rfl (hb hby d9_38) ?_
        show own_S p e below s₁ m 39 #[rv t, iv (0 : Int32), iv (2 : Int32), iv key, iv (1 : Int32), iv (1 : Int32), iv (1 : Int32), iv x1] [(.int (1 : Int32)), (.int (1 : Int32))] _
        refine XS.iadd X0.here hx rfl (hb hby d9_39) rfl ?_
        refine XS.istore X0.here hx rfl (hb hby d9_40) rfl (l' := #[rv t, iv (0 : Int32), iv (2 : Int32), iv key, iv (2 : Int32), iv (1 : Int32), iv (1 : Int32), iv x1]) rfl ?_
        refine XS.goto X0.here hx rfl (pc0 := 42) (pc' := 63) rfl (hb hby d9_42) (by decide) (by decide) ?_
        show own_S p e below s₁ m 63 #[rv t, iv (0 : Int32), iv (2 : Int32), iv key, iv (2 : Int32), iv (1 : Int32), iv (1 : Int32), iv x1] [] _
        refine XS.goto X0.here hx rfl (pc0 := 63) (pc' := 8) rfl (hb hby d9_63) (by decide) (by decide) ?_
        refine XS.iload X0.here hx rfl (hb hby d9_8) rfl ?_
        refine XS.iload X0.here hx rfl (hb hby d9_10) rfl ?_
        show own_S p e below s₁ m 12 #[rv t, iv (0 : Int32), iv (2 : Int32), iv key, iv (2 : Int32), iv (1 : Int32), iv (1 : Int32), iv x1] [(.int (1 : Int32)), (.int (2 : Int32))] _
        refine XS.icmpYes X0.here hx rfl (pc0 := 12) (pc' := 66) rfl (hb hby d9_12) rfl (tlt (by decide : (1 : Int32) < (2 : Int32))).2.2.1 (by decide) (by decide) ?_
        refine XS.iload X0.here hx rfl (hb hby d9_66) rfl ?_
        refine XS.iconst X0.here hx rfl (hb hby d9_68) ?_
        show own_S p e below s₁ m 69 #[rv t, iv (0 : Int32), iv (2 : Int32), iv key, iv (2 : Int32), iv (1 : Int32), iv (1 : Int32), iv x1] [(.int (1 : Int32)), (.int (2 : Int32))] _
        refine XS.iadd X0.here hx rfl (hb hby d9_69) rfl ?_
        refine XS.ineg X0.here hx rfl (hb hby d9_70) rfl ?_
        exact k)
      obtain ⟨fs, hr, hrun, hended, hW, hsame⟩ := X0.leave (v := some (.int (-3 : Int32))) (fun h => by rw [Bd.returns] at h; cases h)
      refine ⟨_, _, pre7 _ ?_, hrun, hended, _, _, rfl, ?_, ⟨_, rfl⟩, hW, hsame.mono (by decide) (by decide)⟩
      · show own_S p e below s₁ m 71 #[rv t, iv (0 : Int32), iv (2 : Int32), iv key, iv (2 : Int32), iv (1 : Int32), iv (1 : Int32), iv x1] [(.int (-3 : Int32))] _
        exact retI X0 hx Bd.returns (hb hby d9_71) hr
      · show QB2 Z t key k x0 x1 h0 n0 _ s₁.heap _
        rw [e0]
        exact ⟨_, rfl, N0, rfl, (Or.inr (Or.inr (Or.inr (Or.inr (⟨rfl, hc33_5⟩)))))⟩
    ·  -- pc 33 no
      have pre9 : ∀ tg, own_S p e below s₁ m 48 #[rv t, iv (0 : Int32), iv (2 : Int32), iv key, iv (1 : Int32), iv (1 : Int32), iv (1 : Int32), iv x1] [(.int key), (.int x1)] tg → Steps p.tables e below (s₁.setTop (entryFrame m #[(.ref t), (.int (0 : Int32)), (.int (2 : Int32)), (.int key)] 8)) tg := fun tg k => pre6 tg (by
        show own_S p e below s₁ m 33 #[rv t, iv (0 : Int32), iv (2 : Int32), iv key, iv (1 : Int32), iv (1 : Int32), iv (1 : Int32), iv x1] [(.int key), (.int x1)] _
        refine XS.icmpYes X0.here hx rfl (pc0 := 33) (pc' := 45) rfl (hb hby d9_33) rfl (flt hc33_5).2.1 (by decide) (by decide) ?_
        refine XS.iload X0.here hx rfl (hb hby d9_45) rfl ?_
        refine XS.iloadN X0.here hx rfl (hb hby d9_47) rfl ?_
        exact k)
      by_cases hc48_8 : key < x1
      ·  -- pc 48 yes
        have pre10 : ∀ tg, own_S p e below s₁ m 71 #[rv t, iv (0 : Int32), iv (2 : Int32), iv key, iv (1 : Int32), iv (0 : Int32), iv (1 : Int32), iv x1] [(.int (-2 : Int32))] tg → Steps p.tables e below (s₁.setTop (entryFrame m #[(.ref t), (.int (0 : Int32)), (.int (2 : Int32)), (.int key)] 8)) tg := fun tg k => pre9 tg (by
          show own_S p e below s₁ m 48 #[rv t, iv (0 : Int32), iv (2 : Int32), iv key, iv (1 : Int32), iv (1 : Int32), iv (1 : Int32), iv x1] [(.int key), (.int x1)] _
          refine XS.icmpNo X0.here hx rfl (hb hby d9_48) rfl (tlt hc48_8).2.2.2 ?_
          refine XS.iload X0.here hx rfl (hb hby d9_51) rfl ?_
          refine XS.iconst X0.here hx rfl (hb hby d9_53) ?_
          show own_S p e below s₁ m 54 #[rv t, iv (0 : Int32), iv (2 : Int32), iv key, iv (1 : Int32), iv (1 : Int32), iv (1 : Int32), iv x1] [(.int (1 : Int32)), (.int (1 : Int32))] _
          refine XS.isub X0.here hx rfl (hb hby d9_54) rfl ?_
          refine XS.istore X0.here hx rfl (hb hby d9_55) rfl (l' := #[rv t, iv (0 : Int32), iv (2 : Int32), iv key, iv (1 : Int32), iv (0 : Int32), iv (1 : Int32), iv x1]) rfl ?_
          refine XS.goto X0.here hx rfl (pc0 := 57) (pc' := 63) rfl (hb hby d9_57) (by decide) (by decide) ?_
          show own_S p e below s₁ m 63 #[rv t, iv (0 : Int32), iv (2 : Int32), iv key, iv (1 : Int32), iv (0 : Int32), iv (1 : Int32), iv x1] [] _
          refine XS.goto X0.here hx rfl (pc0 := 63) (pc' := 8) rfl (hb hby d9_63) (by decide) (by decide) ?_
          refine XS.iload X0.here hx rfl (hb hby d9_8) rfl ?_
          refine XS.iload X0.here hx rfl (hb hby d9_10) rfl ?_
          show own_S p e below s₁ m 12 #[rv t, iv (0 : Int32), iv (2 : Int32), iv key, iv (1 : Int32), iv (0 : Int32), iv (1 : Int32), iv x1] [(.int (0 : Int32)), (.int (1 : Int32))] _
          refine XS.icmpYes X0.here hx rfl (pc0 := 12) (pc' := 66) rfl (hb hby d9_12) rfl (tlt (by decide : (0 : Int32) < (1 : Int32))).2.2.1 (by decide) (by decide) ?_
          refine XS.iload X0.here hx rfl (hb hby d9_66) rfl ?_
          refine XS.iconst X0.here hx rfl (hb hby d9_68) ?_
          show own_S p e below s₁ m 69 #[rv t, iv (0 : Int32), iv (2 : Int32), iv key, iv (1 : Int32), iv (0 : Int32), iv (1 : Int32), iv x1] [(.int (1 : Int32)), (.int (1 : Int32))] _
          refine XS.iadd X0.here hx rfl (hb hby d9_69) rfl ?_
          refine XS.ineg X0.here hx rfl (hb hby d9_70) rfl ?_
          exact k)
        obtain ⟨fs, hr, hrun, hended, hW, hsame⟩ := X0.leave (v := some (.int (-2 : Int32))) (fun h => by rw [Bd.returns] at h; cases h)
        refine ⟨_, _, pre10 _ ?_, hrun, hended, _, _, rfl, ?_, ⟨_, rfl⟩, hW, hsame.mono (by decide) (by decide)⟩
        · show own_S p e below s₁ m 71 #[rv t, iv (0 : Int32), iv (2 : Int32), iv key, iv (1 : Int32), iv (0 : Int32), iv (1 : Int32), iv x1] [(.int (-2 : Int32))] _
          exact retI X0 hx Bd.returns (hb hby d9_71) hr
        · show QB2 Z t key k x0 x1 h0 n0 _ s₁.heap _
          rw [e0]
          exact ⟨_, rfl, N0, rfl, (Or.inr (Or.inr (Or.inr (Or.inl ⟨rfl, hc33_2, hc48_8⟩))))⟩
      ·  -- pc 48 no
        have pre11 : ∀ tg, own_S p e below s₁ m 62 #[rv t, iv (0 : Int32), iv (2 : Int32), iv key, iv (1 : Int32), iv (1 : Int32), iv (1 : Int32), iv x1] [(.int (1 : Int32))] tg → Steps p.tables e below (s₁.setTop (entryFrame m #[(.ref t), (.int (0 : Int32)), (.int (2 : Int32)), (.int key)] 8)) tg := fun tg k => pre9 tg (by
          show own_S p e below s₁ m 48 #[rv t, iv (0 : Int32), iv (2 : Int32), iv key, iv (1 : Int32), iv (1 : Int32), iv (1 : Int32), iv x1] [(.int key), (.int x1)] _
          refine XS.icmpYes X0.here hx rfl (pc0 := 48) (pc' := 60) rfl (hb hby d9_48) rfl (flt hc48_8).2.2.2 (by decide) (by decide) ?_
          refine XS.iload X0.here hx rfl (hb hby d9_60) rfl ?_
          exact k)
        obtain ⟨fs, hr, hrun, hended, hW, hsame⟩ := X0.leave (v := some (.int (1 : Int32))) (fun h => by rw [Bd.returns] at h; cases h)
        refine ⟨_, _, pre11 _ ?_, hrun, hended, _, _, rfl, ?_, ⟨_, rfl⟩, hW, hsame.mono (by decide) (by decide)⟩
        · show own_S p e below s₁ m 62 #[rv t, iv (0 : Int32), iv (2 : Int32), iv key, iv (1 : Int32), iv (1 : Int32), iv (1 : Int32), iv x1] [(.int (1 : Int32))] _
          exact retI X0 hx Bd.returns (hb hby d9_62) hr
        · show QB2 Z t key k x0 x1 h0 n0 _ s₁.heap _
          rw [e0]
          exact ⟨_, rfl, N0, rfl, (Or.inr (Or.inl ⟨rfl, own_eq hc33_5 hc48_8⟩))⟩
  ·  -- pc 33 no
    have pre13 : ∀ tg, own_S p e below s₁ m 48 #[rv t, iv (0 : Int32), iv (2 : Int32), iv key, iv (0 : Int32), iv (1 : Int32), iv (0 : Int32), iv x0] [(.int key), (.int x0)] tg → Steps p.tables e below (s₁.setTop (entryFrame m #[(.ref t), (.int (0 : Int32)), (.int (2 : Int32)), (.int key)] 8)) tg := fun tg k => pre3 tg (by
      show own_S p e below s₁ m 33 #[rv t, iv (0 : Int32), iv (2 : Int32), iv key, iv (0 : Int32), iv (1 : Int32), iv (0 : Int32), iv x0] [(.int key), (.int x0)] _
      refine XS.icmpYes X0.here hx rfl (pc0 := 33) (pc' := 45) rfl (hb hby d9_33) rfl (flt hc33_2).2.1 (by decide) (by decide) ?_
      refine XS.iload X0.here hx rfl (hb hby d9_45) rfl ?_
      refine XS.iloadN X0.here hx rfl (hb hby d9_47) rfl ?_
      exact k)
    by_cases hc48_12 : key < x0
    ·  -- pc 48 yes
      have pre14 : ∀ tg, own_S p e below s₁ m 71 #[rv t, iv (0 : Int32), iv (2 : Int32), iv key, iv (0 : Int32), iv (-1 : Int32), iv (0 : Int32), iv x0] [(.int (-1 : Int32))] tg → Steps p.tables e below (s₁.setTop (entryFrame m #[(.ref t), (.int (0 : Int32)), (.int (2 : Int32)), (.int key)] 8)) tg := fun tg k => pre13 tg (by
        show own_S p e below s₁ m 48 #[rv t, iv (0 : Int32), iv (2 : Int32), iv key, iv (0 : Int32), iv (1 : Int32), iv (0 : Int32), iv x0] [(.int key), (.int x0)] _
        refine XS.icmpNo X0.here hx rfl (hb hby d9_48) rfl (tlt hc48_12).2.2.2 ?_
        refine XS.iload X0.here hx rfl (hb hby d9_51) rfl ?_
        refine XS.iconst X0.here hx rfl (hb hby d9_53) ?_
        show own_S p e below s₁ m 54 #[rv t, iv (0 : Int32), iv (2 : Int32), iv key, iv (0 : Int32), iv (1 : Int32), iv (0 : Int32), iv x0] [(.int (1 : Int32)), (.int (0 : Int32))] _
        refine XS.isub X0.here hx rfl (hb hby d9_54) rfl ?_
        refine XS.istore X0.here hx rfl (hb hby d9_55) rfl (l' := #[rv t, iv (0 : Int32), iv (2 : Int32), iv key, iv (0 : Int32), iv (-1 : Int32), iv (0 : Int32), iv x0]) rfl ?_
        refine XS.goto X0.here hx rfl (pc0 := 57) (pc' := 63) rfl (hb hby d9_57) (by decide) (by decide) ?_
        show own_S p e below s₁ m 63 #[rv t, iv (0 : Int32), iv (2 : Int32), iv key, iv (0 : Int32), iv (-1 : Int32), iv (0 : Int32), iv x0] [] _
        refine XS.goto X0.here hx rfl (pc0 := 63) (pc' := 8) rfl (hb hby d9_63) (by decide) (by decide) ?_
        refine XS.iload X0.here hx rfl (hb hby d9_8) rfl ?_
        refine XS.iload X0.here hx rfl (hb hby d9_10) rfl ?_
        show own_S p e below s₁ m 12 #[rv t, iv (0 : Int32), iv (2 : Int32), iv key, iv (0 : Int32), iv (-1 : Int32), iv (0 : Int32), iv x0] [(.int (-1 : Int32)), (.int (0 : Int32))] _
        refine XS.icmpYes X0.here hx rfl (pc0 := 12) (pc' := 66) rfl (hb hby d9_12) rfl (tlt (by decide : (-1 : Int32) < (0 : Int32))).2.2.1 (by decide) (by decide) ?_
        refine XS.iload X0.here hx rfl (hb hby d9_66) rfl ?_
        refine XS.iconst X0.here hx rfl (hb hby d9_68) ?_
        show own_S p e below s₁ m 69 #[rv t, iv (0 : Int32), iv (2 : Int32), iv key, iv (0 : Int32), iv (-1 : Int32), iv (0 : Int32), iv x0] [(.int (1 : Int32)), (.int (0 : Int32))] _
        refine XS.iadd X0.here hx rfl (hb hby d9_69) rfl ?_
        refine XS.ineg X0.here hx rfl (hb hby d9_70) rfl ?_
        exact k)
      obtain ⟨fs, hr, hrun, hended, hW, hsame⟩ := X0.leave (v := some (.int (-1 : Int32))) (fun h => by rw [Bd.returns] at h; cases h)
      refine ⟨_, _, pre14 _ ?_, hrun, hended, _, _, rfl, ?_, ⟨_, rfl⟩, hW, hsame.mono (by decide) (by decide)⟩
      · show own_S p e below s₁ m 71 #[rv t, iv (0 : Int32), iv (2 : Int32), iv key, iv (0 : Int32), iv (-1 : Int32), iv (0 : Int32), iv x0] [(.int (-1 : Int32))] _
        exact retI X0 hx Bd.returns (hb hby d9_71) hr
      · show QB2 Z t key k x0 x1 h0 n0 _ s₁.heap _
        rw [e0]
        exact ⟨_, rfl, N0, rfl, (Or.inr (Or.inr (Or.inl ⟨rfl, hc48_12⟩)))⟩
    ·  -- pc 48 no
      have pre15 : ∀ tg, own_S p e below s₁ m 62 #[rv t, iv (0 : Int32), iv (2 : Int32), iv key, iv (0 : Int32), iv (1 : Int32), iv (0 : Int32), iv x0] [(.int (0 : Int32))] tg → Steps p.tables e below (s₁.setTop (entryFrame m #[(.ref t), (.int (0 : Int32)), (.int (2 : Int32)), (.int key)] 8)) tg := fun tg k => pre13 tg (by
        show own_S p e below s₁ m 48 #[rv t, iv (0 : Int32), iv (2 : Int32), iv key, iv (0 : Int32), iv (1 : Int32), iv (0 : Int32), iv x0] [(.int key), (.int x0)] _
        refine XS.icmpYes X0.here hx rfl (pc0 := 48) (pc' := 60) rfl (hb hby d9_48) rfl (flt hc48_12).2.2.2 (by decide) (by decide) ?_
        refine XS.iload X0.here hx rfl (hb hby d9_60) rfl ?_
        exact k)
      obtain ⟨fs, hr, hrun, hended, hW, hsame⟩ := X0.leave (v := some (.int (0 : Int32))) (fun h => by rw [Bd.returns] at h; cases h)
      refine ⟨_, _, pre15 _ ?_, hrun, hended, _, _, rfl, ?_, ⟨_, rfl⟩, hW, hsame.mono (by decide) (by decide)⟩
      · show own_S p e below s₁ m 62 #[rv t, iv (0 : Int32), iv (2 : Int32), iv key, iv (0 : Int32), iv (1 : Int32), iv (0 : Int32), iv x0] [(.int (0 : Int32))] _
        exact retI X0 hx Bd.returns (hb hby d9_62) hr
      · show QB2 Z t key k x0 x1 h0 n0 _ s₁.heap _
        rw [e0]
        exact ⟨_, rfl, N0, rfl, (Or.inl ⟨rfl, own_eq hc33_2 hc48_12⟩)⟩
theorem ef_S2 (m : MethodId) (t : Addr) (key : Int32) : entryFrame m #[(.ref t), (.int (0 : Int32)), (.int (2 : Int32)), (.int key)] 4 = mkF m 0 #[rv t, iv (0 : Int32), iv (2 : Int32), iv key] [] := by first | (simp [entryFrame, mkF, argsToLocals, Value.category]; done) | rfl
def QS2 (Z : State) (t : Addr) (key : Int32) (k : ClassId) (x0 : Int32) (x1 : Int32) (h0 : Heap) (n0 : Nat) (v : Option Value) (h : Heap) (L : List Loc) : Prop := ∃ r : Int32, v = some (.int r) ∧ Fr n0 L ∧ h = h0 ∧ ((r = 0 ∧ x0 = key) ∨ (r = 1 ∧ x1 = key) ∨ (r = -1 ∧ key < x0) ∨ (r = -2 ∧ x0 < key ∧ key < x1) ∨ (r = -3 ∧ x1 < key))
set_option maxRecDepth 65536 in
set_option maxHeartbeats 40000000 in
theorem rmS2 (l : Launch) (Z : State) (a0 : Array Value) (hw : ∀ d ∈ tables_1, d.before a0 Z = true) (ws : List Jvm.Cond) (t : Addr) (key : Int32) (k : ClassId) (x0 : Int32) (x1 : Int32) (h0 : Heap) (n0 : Nat) (Z0 : n0 ≤ h0.size) (V_t : Arv Z h0 t k .char (4 : Int32) [(.int x0), (.int x1), (.int (0 : Int32)), (.int (0 : Int32))] (.int (0 : Int32))) :
    MetFree l (⟨"java/util/Arrays", "binarySearch", "([CIIC)I"⟩ : MethodName) (head1 (Jvm.Cond.code (⟨"java/util/Arrays", "binarySearch", "([CIIC)I"⟩ : MethodName) jdk_65_method_64_code 4 (some .int) :: ws) ({ frames := 1, cells := 0, slots := 0, locals := 24 } : Room)) (fun a U => a = #[(.ref t), (.int (0 : Int32)), (.int (2 : Int32)), (.int key)] ∧ Z.Warmed39 U.vm ∧ U.heap = h0) (fun _ _ _ _ _ => True) (fun _ U o U' => ∃ v L, o = .returned v ∧ QS2 Z t key k x0 x1 h0 n0 v U'.heap L ∧ FrameEnd U o U' L ({ frames := 1, cells := 0, slots := 0, locals := 24 } : Room).cells ({ frames := 1, cells := 0, slots := 0, locals := 24 } : Room).slots) := by
  refine MetFree.of_bodySF (plainFor_of_name pn_1) hisR ?_
  intro p e s m args below meth c s₁ Bd hml0 hP hK
  obtain ⟨rfl, hZ, hh⟩ := hP
  have hx := Bd.exec
  have hby := Bd.bytes
  have hml : c.maxLocals = 4 := hml0
  have hown : s.vm.findClass "java/util/Arrays" = some m.cls := findClass_of_methodNamed Bd.named
  have hnm := (name_of_methodNamed Bd.named Bd.method).1
  have X0 : Stand p l e ({ frames := 1, cells := 0, slots := 0, locals := 24 } : Room) s m #[(.ref t), (.int (0 : Int32)), (.int (2 : Int32)), (.int key)] below meth c s₁ [] 0 0 := Stand.of_body Bd
  have e0 : s₁.heap = h0 := by rw [← hh, Bd.state]; rfl
  have N0 := Fr.nil n0
  have pre0 : ∀ tg, Steps p.tables e below (s₁.setTop (mkF m 0 #[rv t, iv (0 : Int32), iv (2 : Int32), iv key] [])) tg → Steps p.tables e below (s₁.setTop (entryFrame m #[(.ref t), (.int (0 : Int32)), (.int (2 : Int32)), (.int key)] 4)) tg := fun tg k => castTop (ef_S2 m t key) k
  obtain ⟨cl1, Ar1, q1, S1, M1, -, -⟩ := id V_t
  obtain ⟨_, _, ⟨T2, L2, k2, n2⟩, -, X2, ⟨Lc2, hQ2, l2, y2, z2⟩, st2⟩ := Jvm.LawKit.callS X0 hx (y := (⟨"java/util/Arrays", "rangeCheck", "(III)V"⟩ : MethodName)) hown (mvT hZ (hw _ (List.mem_of_getElem? (i := 42) rfl))) (mvT hZ (hw _ (List.mem_of_getElem? (i := 43) rfl))) (mvT hZ (hw _ (List.mem_of_getElem? (i := 40) rfl))) (mvT hZ (hw _ (List.mem_of_getElem? (i := 44) rfl))) (by decide) (backOf (W := 0) (rmRC l Z a0 hw [] (4 : Int32) (0 : Int32) (2 : Int32) h0 n0 Z0 (by decide) (by decide) (by decide)) hZ (hw _ (List.mem_of_getElem? (i := 44) rfl)) (hw _ (List.mem_of_getElem? (i := 40) rfl)) (by decide) (by decide)) (g := (mkF m 4 #[rv t, iv (0 : Int32), iv (2 : Int32), iv key] [(.int (2 : Int32)), (.int (0 : Int32)), (.int (4 : Int32))])) rfl (by rw [hml]; rfl) (argsL := [(.int (4 : Int32)), (.int (0 : Int32)), (.int (2 : Int32))]) (rest := []) (lenOf pd_0 rfl) rfl (by show 2 * 0 + _ ≤ _; exact Nat.le_of_eq rfl) (hb hby d7_4) (fun _ _ => ⟨rfl, e0, (by decide : 0 + 0 ≤ _), (by decide : 0 + 0 ≤ _)⟩)
  dsimp only [Pt.U, Pt.locs, Pt.cells, Pt.slots] at X2 l2 y2 z2 st2 hQ2
  subst l2 y2 z2
  obtain ⟨rfl, N2q, e2q⟩ := hQ2
  have N2 := Fr.app N0 N2q
  have e2 : T2.heap = h0 := e2q
  obtain ⟨_, _, ⟨T3, L3, k3, n3⟩, -, X3, ⟨Lc3, hQ3, l3, y3, z3⟩, st3⟩ := Jvm.LawKit.callS X2 hx (y := (⟨"java/util/Arrays", "binarySearch0", "([CIIC)I"⟩ : MethodName)) hown (mvT hZ (hw _ (List.mem_of_getElem? (i := 45) rfl))) (mvT hZ (hw _ (List.mem_of_getElem? (i := 46) rfl))) (mvT hZ (hw _ (List.mem_of_getElem? (i := 40) rfl))) (mvT hZ (hw _ (List.mem_of_getElem? (i := 47) rfl))) (by decide) (backOf (W := 0) (rmB2 l Z a0 hw [] t key k x0 x1 h0 n0 Z0 V_t) hZ (hw _ (List.mem_of_getElem? (i := 47) rfl)) (hw _ (List.mem_of_getElem? (i := 40) rfl)) (by decide) (by decide)) (g := (mkF m 11 #[rv t, iv (0 : Int32), iv (2 : Int32), iv key] [(.int key), (.int (2 : Int32)), (.int (0 : Int32)), (.ref t)])) rfl (by rw [hml]; rfl) (argsL := [(.ref t), (.int (0 : Int32)), (.int (2 : Int32)), (.int key)]) (rest := []) (lenOf pd_1 rfl) rfl (by show 2 * 0 + _ ≤ _; exact Nat.le_of_eq rfl) (hb hby d7_11) (fun _ _ => ⟨rfl, e2, (by decide : 0 + 0 ≤ _), (by decide : 0 + 0 ≤ _)⟩)
  dsimp only [Pt.U, Pt.locs, Pt.cells, Pt.slots] at X3 l3 y3 z3 st3 hQ3
  subst l3 y3 z3
  obtain ⟨r3, rfl, N3q, e3q, hD3⟩ := hQ3
  have N3 := Fr.app N2 N3q
  have e3 : T3.heap = h0 := e3q
  have pre4 : ∀ tg, own_S p e below T3 m 14 #[rv t, iv (0 : Int32), iv (2 : Int32), iv key] [(.int r3)] tg → Steps p.tables e below (s₁.setTop (entryFrame m #[(.ref t), (.int (0 : Int32)), (.int (2 : Int32)), (.int key)] 4)) tg := fun tg k => pre0 tg (by
    show own_S p e below s₁ m 0 #[rv t, iv (0 : Int32), iv (2 : Int32), iv key] [] _
    refine XS.aloadN X0.here hx rfl (hb hby d7_0) rfl rfl ?_
    refine X0.arraylength hx (by rw [e0]; exact Ar1.1) (State.isArrayOf_alike hZ.alike Ar1.2.1) (g := (mkF m 1 #[rv t, iv (0 : Int32), iv (2 : Int32), iv key] [(.ref t)])) rfl rfl (hb hby d7_1) _ ?_
    rw [len_of S1 M1]
    refine XS.iloadN X0.here hx rfl (hb hby d7_2) rfl ?_
    show own_S p e below s₁ m 3 #[rv t, iv (0 : Int32), iv (2 : Int32), iv key] [(.int (0 : Int32)), (.int (4 : Int32))] _
    refine XS.iloadN X0.here hx rfl (hb hby d7_3) rfl ?_
    refine st2 _ ?_
    refine XS.aloadN X2.here hx rfl (hb hby d7_7) rfl rfl ?_
    show own_S p e below T2 m 8 #[rv t, iv (0 : Int32), iv (2 : Int32), iv key] [(.ref t)] _
    refine XS.iloadN X2.here hx rfl (hb hby d7_8) rfl ?_
    refine XS.iloadN X2.here hx rfl (hb hby d7_9) rfl ?_
    refine XS.iloadN X2.here hx rfl (hb hby d7_10) rfl ?_
    show own_S p e below T2 m 11 #[rv t, iv (0 : Int32), iv (2 : Int32), iv key] [(.int key), (.int (2 : Int32)), (.int (0 : Int32)), (.ref t)] _
    refine st3 _ ?_
    exact k)
  obtain ⟨fs, hr, hrun, hended, hW, hsame⟩ := X3.leave (v := some (.int r3)) (fun h => by rw [Bd.returns] at h; cases h)
  refine ⟨_, _, pre4 _ ?_, hrun, hended, _, _, rfl, ?_, ⟨_, rfl⟩, hW, hsame.mono (by decide) (by decide)⟩
  · show own_S p e below T3 m 14 #[rv t, iv (0 : Int32), iv (2 : Int32), iv key] [(.int r3)] _
    exact retI X3 hx Bd.returns (hb hby d7_14) hr
  · show QS2 Z t key k x0 x1 h0 n0 _ T3.heap _
    rw [e3]
    exact ⟨_, rfl, N3, rfl, hD3⟩
theorem ef_B3 (m : MethodId) (t : Addr) (key : Int32) : entryFrame m #[(.ref t), (.int (0 : Int32)), (.int (3 : Int32)), (.int key)] 8 = mkF m 0 #[rv t, iv (0 : Int32), iv (3 : Int32), iv key, .unset, .unset, .unset, .unset] [] := by first | (simp [entryFrame, mkF, argsToLocals, Value.category]; done) | rfl
def QB3 (Z : State) (t : Addr) (key : Int32) (k : ClassId) (x0 : Int32) (x1 : Int32) (x2 : Int32) (h0 : Heap) (n0 : Nat) (v : Option Value) (h : Heap) (L : List Loc) : Prop := ∃ r : Int32, v = some (.int r) ∧ Fr n0 L ∧ h = h0 ∧ ((r = 0 ∧ x0 = key) ∨ (r = 1 ∧ x1 = key) ∨ (r = 2 ∧ x2 = key) ∨ (r = -1 ∧ key < x0) ∨ (r = -2 ∧ x0 < key ∧ key < x1) ∨ (r = -3 ∧ x1 < key ∧ key < x2) ∨ (r = -4 ∧ x2 < key))
set_option maxRecDepth 65536 in
set_option maxHeartbeats 40000000 in
theorem rmB3 (l : Launch) (Z : State) (a0 : Array Value) (hw : ∀ d ∈ tables_1, d.before a0 Z = true) (ws : List Jvm.Cond) (t : Addr) (key : Int32) (k : ClassId) (x0 : Int32) (x1 : Int32) (x2 : Int32) (h0 : Heap) (n0 : Nat) (Z0 : n0 ≤ h0.size) (V_t : Arv Z h0 t k .char (4 : Int32) [(.int x0), (.int x1), (.int x2), (.int (0 : Int32))] (.int (0 : Int32))) :
    MetFree l (⟨"java/util/Arrays", "binarySearch0", "([CIIC)I"⟩ : MethodName) (head1 (Jvm.Cond.code (⟨"java/util/Arrays", "binarySearch0", "([CIIC)I"⟩ : MethodName) jdk_65_method_65_code 8 (some .int) :: ws) ({ frames := 0, cells := 0, slots := 0, locals := 0 } : Room)) (fun a U => a = #[(.ref t), (.int (0 : Int32)), (.int (3 : Int32)), (.int key)] ∧ Z.Warmed39 U.vm ∧ U.heap = h0) (fun _ _ _ _ _ => True) (fun _ U o U' => ∃ v L, o = .returned v ∧ QB3 Z t key k x0 x1 x2 h0 n0 v U'.heap L ∧ FrameEnd U o U' L ({ frames := 0, cells := 0, slots := 0, locals := 0 } : Room).cells ({ frames := 0, cells := 0, slots := 0, locals := 0 } : Room).slots) := by
  refine MetFree.of_bodySF (plainFor_of_name pn_1) hisR ?_
  intro p e s m args below meth c s₁ Bd hml0 hP hK
  obtain ⟨rfl, hZ, hh⟩ := hP
  have hx := Bd.exec
  have hby := Bd.bytes
  have hml : c.maxLocals = 8 := hml0
  have hown : s.vm.findClass "java/util/Arrays" = some m.cls := findClass_of_methodNamed Bd.named
  have hnm := (name_of_methodNamed Bd.named Bd.method).1
  have X0 : Stand p l e ({ frames := 0, cells := 0, slots := 0, locals := 0 } : Room) s m #[(.ref t), (.int (0 : Int32)), (.int (3 : Int32)), (.int key)] below meth c s₁ [] 0 0 := Stand.of_body Bd
  have e0 : s₁.heap = h0 := by rw [← hh, Bd.state]; rfl
  have N0 := Fr.nil n0
  have pre0 : ∀ tg, Steps p.tables e below (s₁.setTop (mkF m 0 #[rv t, iv (0 : Int32), iv (3 : Int32), iv key, .unset, .unset, .unset, .unset] [])) tg → Steps p.tables e below (s₁.setTop (entryFrame m #[(.ref t), (.int (0 : Int32)), (.int (3 : Int32)), (.int key)] 8)) tg := fun tg k => castTop (ef_B3 m t key) k
  obtain ⟨cl1, Ar1, q1, S1, M1, H1, G1⟩ := id V_t
  have hin1 : ¬ ((1 : Int32) < 0 ∨ cl1.slots.size ≤ ((1 : Int32)).toNatClampNeg) := inb_of S1 ⟨by decide, by decide⟩
  have hat1 : cl1.slots[((1 : Int32)).toNatClampNeg]? = some (.int x1) := H1.at hin1 rfl
  have pre3 : ∀ tg, own_S p e below s₁ m 33 #[rv t, iv (0 : Int32), iv (3 : Int32), iv key, iv (0 : Int32), iv (2 : Int32), iv (1 : Int32), iv x1] [(.int key), (.int x1)] tg → Steps p.tables e below (s₁.setTop (entryFrame m #[(.ref t), (.int (0 : Int32)), (.int (3 : Int32)), (.int key)] 8)) tg := fun tg k => pre0 tg (by
    show own_S p e below s₁ m 0 #[rv t, iv (0 : Int32), iv (3 : Int32), iv key, .unset, .unset, .unset, .unset] [] _
    refine XS.iloadN X0.here hx rfl (hb hby d9_0) rfl ?_
    refine XS.istore X0.here hx rfl (hb hby d9_1) rfl (l' := #[rv t, iv (0 : Int32), iv (3 : Int32), iv key, iv (0 : Int32), .unset, .unset, .unset]) rfl ?_
    refine XS.iloadN X0.here hx rfl (hb hby d9_3) rfl ?_
    show own_S p e below s₁ m 4 #[rv t, iv (0 : Int32), iv (3 : Int32), iv key, iv (0 : Int32), .unset, .unset, .unset] [(.int (3 : Int32))] _
    refine XS.iconst X0.here hx rfl (hb hby d9_4) ?_
    refine XS.isub X0.here hx rfl (hb hby d9_5) rfl ?_
    refine XS.istore X0.here hx rfl (hb hby d9_6) rfl (l' := #[rv t, iv (0 : Int32), iv (3 : Int32), iv key, iv (0 : Int32), iv (2 : Int32), .unset, .unset]) rfl ?_
    show own_S p e below s₁ m 8 #[rv t, iv (0 : Int32), iv (3 : Int32), iv key, iv (0 : Int32), iv (2 : Int32), .unset, .unset] [] _
    refine XS.iload X0.here hx rfl (hb hby d9_8) rfl ?_
    refine XS.iload X0.here hx rfl (hb hby d9_10) rfl ?_
    refine XS.icmpNo X0.here hx rfl (hb hby d9_12) rfl (flt (by decide : ¬ ((2 : Int32) < (0 : Int32)))).2.2.1 ?_
    show own_S p e below s₁ m 15 #[rv t, iv (0 : Int32), iv (3 : Int32), iv key, iv (0 : Int32), iv (2 : Int32), .unset, .unset] [] _
    refine XS.iload X0.here hx rfl (hb hby d9_15) rfl ?_
    refine XS.iload X0.here hx rfl (hb hby d9_17) rfl ?_
    refine XS.iadd X0.here hx rfl (hb hby d9_19) rfl ?_
    show own_S p e below s₁ m 20 #[rv t, iv (0 : Int32), iv (3 : Int32), iv key, iv (0 : Int32), iv (2 : Int32), .unset, .unset] [(.int (2 : Int32))] _
    refine XS.iconst X0.here hx rfl (hb hby d9_20) ?_
    refine XS.iushr X0.here hx rfl (hb hby d9_21) rfl ?_
    refine XS.istore X0.here hx rfl (hb hby d9_22) rfl (l' := #[rv t, iv (0 : Int32), iv (3 : Int32), iv key, iv (0 : Int32), iv (2 : Int32), iv (1 : Int32), .unset]) rfl ?_
    show own_S p e below s₁ m 24 #[rv t, iv (0 : Int32), iv (3 : Int32), iv key, iv (0 : Int32), iv (2 : Int32), iv (1 : Int32), .unset] [] _
    refine XS.aloadN X0.here hx rfl (hb hby d9_24) rfl rfl ?_
    refine XS.iload X0.here hx rfl (hb hby d9_25) rfl ?_
    refine X0.caload hx (j := (1 : Int32)) (v := (.int x1)) (by rw [e0]; exact Ar1.1) (State.isArrayOf_alike hZ.alike Ar1.2.1) Ar1.2.2 hin1 hat1 (g := (mkF m 27 #[rv t, iv (0 : Int32), iv (3 : Int32), iv key, iv (0 : Int32), iv (2 : Int32), iv (1 : Int32), .unset] [(.int (1 : Int32)), (.ref t)])) rfl rfl (hb hby d9_27) _ ?_
    show own_S p e below s₁ m 28 #[rv t, iv (0 : Int32), iv (3 : Int32), iv key, iv (0 : Int32), iv (2 : Int32), iv (1 : Int32), .unset] [(.int x1)] _
    refine XS.istore X0.here hx rfl (hb hby d9_28) rfl (l' := #[rv t, iv (0 : Int32), iv (3 : Int32), iv key, iv (0 : Int32), iv (2 : Int32), iv (1 : Int32), iv x1]) rfl ?_
    refine XS.iload X0.here hx rfl (hb hby d9_30) rfl ?_
    refine XS.iloadN X0.here hx rfl (hb hby d9_32) rfl ?_
    exact k)
  by_cases hc33_2 : x1 < key
  ·  -- pc 33 yes
    obtain ⟨cl4, Ar4, q4, S4, M4, H4, G4⟩ := id V_t
    have hin4 : ¬ ((2 : Int32) < 0 ∨ cl4.slots.size ≤ ((2 : Int32)).toNatClampNeg) := inb_of S4 ⟨by decide, by decide⟩
    have hat4 : cl4.slots[((2 : Int32)).toNatClampNeg]? = some (.int x2) := H4.at hin4 rfl
    have pre6 : ∀ tg, own_S p e below s₁ m 33 #[rv t, iv (0 : Int32), iv (3 : Int32), iv key, iv (2 : Int32), iv (2 : Int32), iv (2 : Int32), iv x2] [(.int key), (.int x2)] tg → Steps p.tables e below (s₁.setTop (entryFrame m #[(.ref t), (.int (0 : Int32)), (.int (3 : Int32)), (.int key)] 8)) tg := fun tg k => pre3 tg (by
      show own_S p e below s₁ m 33 #[rv t, iv (0 : Int32), iv (3 : Int32), iv key, iv (0 : Int32), iv (2 : Int32), iv (1 : Int32), iv x1] [(.int key), (.int x1)] _
      refine XS.icmpNo X0.here hx rfl (hb hby d9_33) rfl (tlt hc33_2).2.1 ?_
      refine XS.iload X0.here hx rfl (hb hby d9_36) rfl ?_
      refine XS.iconst X0.here hx rfl (hb hby d9_38) ?_
      show own_S p e below s₁ m 39 #[rv t, iv (0 : Int32), iv (3 : Int32), iv key, iv (0 : Int32), iv (2 : Int32), iv (1 : Int32), iv x1] [(.int (1 : Int32)), (.int (1 : Int32))] _
      refine XS.iadd X0.here hx rfl (hb hby d9_39) rfl ?_
      refine XS.istore X0.here hx rfl (hb hby d9_40) rfl (l' := #[rv t, iv (0 : Int32), iv (3 : Int32), iv key, iv (2 : Int32), iv (2 : Int32), iv (1 : Int32), iv x1]) rfl ?_
      refine XS.goto X0.here hx rfl (pc0 := 42) (pc' := 63) rfl (hb hby d9_42) (by decide) (by decide) ?_
      show own_S p e below s₁ m 63 #[rv t, iv (0 : Int32), iv (3 : Int32), iv key, iv (2 : Int32), iv (2 : Int32), iv (1 : Int32), iv x1] [] _
      refine XS.goto X0.here hx rfl (pc0 := 63) (pc' := 8) rfl (hb hby d9_63) (by decide) (by decide) ?_
      refine XS.iload X0.here hx rfl (hb hby d9_8) rfl ?_
      refine XS.iload X0.here hx rfl (hb hby d9_10) rfl ?_
      show own_S p e below s₁ m 12 #[rv t, iv (0 : Int32), iv (3 : Int32), iv key, iv (2 : Int32), iv (2 : Int32), iv (1 : Int32), iv x1] [(.int (2 : Int32)), (.int (2 : Int32))] _
      refine XS.icmpNo X0.here hx rfl (hb hby d9_12) rfl (flt (by decide : ¬ ((2 : Int32) < (2 : Int32)))).2.2.1 ?_
      refine XS.iload X0.here hx rfl (hb hby d9_15) rfl ?_
      refine XS.iload X0.here hx rfl (hb hby d9_17) rfl ?_
      show own_S p e below s₁ m 19 #[rv t, iv (0 : Int32), iv (3 : Int32), iv key, iv (2 : Int32), iv (2 : Int32), iv (1 : Int32), iv x1] [(.int (2 : Int32)), (.int (2 : Int32))] _
      refine XS.iadd X0.here hx rfl (hb hby d9_19) rfl ?_
      refine XS.iconst X0.here hx rfl (hb hby d9_20) ?_
      refine XS.iushr X0.here hx rfl (hb hby d9_21) rfl ?_
      show own_S p e below s₁ m 22 #[rv t, iv (0 : Int32), iv (3 : Int32), iv key, iv (2 : Int32), iv (2 : Int32), iv (1 : Int32), iv x1] [(.int (2 : Int32))] _
      refine XS.istore X0.here hx rfl (hb hby d9_22) rfl (l' := #[rv t, iv (0 : Int32), iv (3 : Int32), iv key, iv (2 : Int32), iv (2 : Int32), iv (2 : Int32), iv x1]) rfl ?_
      refine XS.aloadN X0.here hx rfl (hb hby d9_24) rfl rfl ?_
      refine XS.iload X0.here hx rfl (hb hby d9_25) rfl ?_
      show own_S p e below s₁ m 27 #[rv t, iv (0 : Int32), iv (3 : Int32), iv key, iv (2 : Int32), iv (2 : Int32), iv (2 : Int32), iv x1] [(.int (2 : Int32)), (.ref t)] _
      refine X0.caload hx (j := (2 : Int32)) (v := (.int x2)) (by rw [e0]; exact Ar4.1) (State.isArrayOf_alike hZ.alike Ar4.2.1) Ar4.2.2 hin4 hat4 (g := (mkF m 27 #[rv t, iv (0 : Int32), iv (3 : Int32), iv key, iv (2 : Int32), iv (2 : Int32), iv (2 : Int32), iv x1] [(.int (2 : Int32)), (.ref t)])) rfl rfl (hb hby d9_27) _ ?_
      refine XS.istore X0.here hx rfl (hb hby d9_28) rfl (l' := #[rv t, iv (0 : Int32), iv (3 : Int32), iv key, iv (2 : Int32), iv (2 : Int32), iv (2 : Int32), iv x2]) rfl ?_
      refine XS.iload X0.here hx rfl (hb hby d9_30) rfl ?_
      show own_S p e below s₁ m 32 #[rv t, iv (0 : Int32), iv (3 : Int32), iv key, iv (2 : Int32), iv (2 : Int32), iv (2 : Int32), iv x2] [(.int x2)] _
      refine XS.iloadN X0.here hx rfl (hb hby d9_32) rfl ?_
      exact k)
    by_cases hc33_5 : x2 < key
    ·  -- pc 33 yes
      have pre7 : ∀ tg, own_S p e below s₁ m 71 #[rv t, iv (0 : Int32), iv (3 : Int32), iv key, iv (3 : Int32), iv (2 : Int32), iv (2 : Int32), iv x2] [(.int (-4 : Int32))] tg → Steps p.tables e below (s₁.setTop (entryFrame m #[(.ref t), (.int (0 : Int32)), (.int (3 : Int32)), (.int key)] 8)) tg := fun tg k => pre6 tg (by
        show own_S p e below s₁ m 33 #[rv t, iv (0 : Int32), iv (3 : Int32), iv key, iv (2 : Int32), iv (2 : Int32), iv (2 : Int32), iv x2] [(.int key), (.int x2)] _
        refine XS.icmpNo X0.here hx rfl (hb hby d9_33) rfl (tlt hc33_5).2.1 ?_
        refine XS.iload X0.here hx rfl (hb hby d9_36) rfl ?_
        refine XS.iconst X0.here hx rfl (hb hby d9_38) ?_
        show own_S p e below s₁ m 39 #[rv t, iv (0 : Int32), iv (3 : Int32), iv key, iv (2 : Int32), iv (2 : Int32), iv (2 : Int32), iv x2] [(.int (1 : Int32)), (.int (2 : Int32))] _
        refine XS.iadd X0.here hx rfl (hb hby d9_39) rfl ?_
        refine XS.istore X0.here hx rfl (hb hby d9_40) rfl (l' := #[rv t, iv (0 : Int32), iv (3 : Int32), iv key, iv (3 : Int32), iv (2 : Int32), iv (2 : Int32), iv x2]) rfl ?_
        refine XS.goto X0.here hx rfl (pc0 := 42) (pc' := 63) rfl (hb hby d9_42) (by decide) (by decide) ?_
        show own_S p e below s₁ m 63 #[rv t, iv (0 : Int32), iv (3 : Int32), iv key, iv (3 : Int32), iv (2 : Int32), iv (2 : Int32), iv x2] [] _
        refine XS.goto X0.here hx rfl (pc0 := 63) (pc' := 8) rfl (hb hby d9_63) (by decide) (by decide) ?_
        refine XS.iload X0.here hx rfl (hb hby d9_8) rfl ?_
        refine XS.iload X0.here hx rfl (hb hby d9_10) rfl ?_
        show own_S p e below s₁ m 12 #[rv t, iv (0 : Int32), iv (3 : Int32), iv key, iv (3 : Int32), iv (2 : Int32), iv (2 : Int32), iv x2] [(.int (2 : Int32)), (.int (3 : Int32))] _
        refine XS.icmpYes X0.here hx rfl (pc0 := 12) (pc' := 66) rfl (hb hby d9_12) rfl (tlt (by decide : (2 : Int32) < (3 : Int32))).2.2.1 (by decide) (by decide) ?_
        refine XS.iload X0.here hx rfl (hb hby d9_66) rfl ?_
        refine XS.iconst X0.here hx rfl (hb hby d9_68) ?_
        show own_S p e below s₁ m 69 #[rv t, iv (0 : Int32), iv (3 : Int32), iv key, iv (3 : Int32), iv (2 : Int32), iv (2 : Int32), iv x2] [(.int (1 : Int32)), (.int (3 : Int32))] _
        refine XS.iadd X0.here hx rfl (hb hby d9_69) rfl ?_
        refine XS.ineg X0.here hx rfl (hb hby d9_70) rfl ?_
        exact k)
      obtain ⟨fs, hr, hrun, hended, hW, hsame⟩ := X0.leave (v := some (.int (-4 : Int32))) (fun h => by rw [Bd.returns] at h; cases h)
      refine ⟨_, _, pre7 _ ?_, hrun, hended, _, _, rfl, ?_, ⟨_, rfl⟩, hW, hsame.mono (by decide) (by decide)⟩
      · show own_S p e below s₁ m 71 #[rv t, iv (0 : Int32), iv (3 : Int32), iv key, iv (3 : Int32), iv (2 : Int32), iv (2 : Int32), iv x2] [(.int (-4 : Int32))] _
        exact retI X0 hx Bd.returns (hb hby d9_71) hr
      · show QB3 Z t key k x0 x1 x2 h0 n0 _ s₁.heap _
        rw [e0]
        exact ⟨_, rfl, N0, rfl, (Or.inr (Or.inr (Or.inr (Or.inr (Or.inr (Or.inr (⟨rfl, hc33_5⟩)))))))⟩
    ·  -- pc 33 no
      have pre9 : ∀ tg, own_S p e below s₁ m 48 #[rv t, iv (0 : Int32), iv (3 : Int32), iv key, iv (2 : Int32), iv (2 : Int32), iv (2 : Int32), iv x2] [(.int key), (.int x2)] tg → Steps p.tables e below (s₁.setTop (entryFrame m #[(.ref t), (.int (0 : Int32)), (.int (3 : Int32)), (.int key)] 8)) tg := fun tg k => pre6 tg (by
        show own_S p e below s₁ m 33 #[rv t, iv (0 : Int32), iv (3 : Int32), iv key, iv (2 : Int32), iv (2 : Int32), iv (2 : Int32), iv x2] [(.int key), (.int x2)] _
        refine XS.icmpYes X0.here hx rfl (pc0 := 33) (pc' := 45) rfl (hb hby d9_33) rfl (flt hc33_5).2.1 (by decide) (by decide) ?_
        refine XS.iload X0.here hx rfl (hb hby d9_45) rfl ?_
        refine XS.iloadN X0.here hx rfl (hb hby d9_47) rfl ?_
        exact k)
      by_cases hc48_8 : key < x2
      ·  -- pc 48 yes
        have pre10 : ∀ tg, own_S p e below s₁ m 71 #[rv t, iv (0 : Int32), iv (3 : Int32), iv key, iv (2 : Int32), iv (1 : Int32), iv (2 : Int32), iv x2] [(.int (-3 : Int32))] tg → Steps p.tables e below (s₁.setTop (entryFrame m #[(.ref t), (.int (0 : Int32)), (.int (3 : Int32)), (.int key)] 8)) tg := fun tg k => pre9 tg (by
          show own_S p e below s₁ m 48 #[rv t, iv (0 : Int32), iv (3 : Int32), iv key, iv (2 : Int32), iv (2 : Int32), iv (2 : Int32), iv x2] [(.int key), (.int x2)] _
          refine XS.icmpNo X0.here hx rfl (hb hby d9_48) rfl (tlt hc48_8).2.2.2 ?_
          refine XS.iload X0.here hx rfl (hb hby d9_51) rfl ?_
          refine XS.iconst X0.here hx rfl (hb hby d9_53) ?_
          show own_S p e below s₁ m 54 #[rv t, iv (0 : Int32), iv (3 : Int32), iv key, iv (2 : Int32), iv (2 : Int32), iv (2 : Int32), iv x2] [(.int (1 : Int32)), (.int (2 : Int32))] _
          refine XS.isub X0.here hx rfl (hb hby d9_54) rfl ?_
          refine XS.istore X0.here hx rfl (hb hby d9_55) rfl (l' := #[rv t, iv (0 : Int32), iv (3 : Int32), iv key, iv (2 : Int32), iv (1 : Int32), iv (2 : Int32), iv x2]) rfl ?_
          refine XS.goto X0.here hx rfl (pc0 := 57) (pc' := 63) rfl (hb hby d9_57) (by decide) (by decide) ?_
          show own_S p e below s₁ m 63 #[rv t, iv (0 : Int32), iv (3 : Int32), iv key, iv (2 : Int32), iv (1 : Int32), iv (2 : Int32), iv x2] [] _
          refine XS.goto X0.here hx rfl (pc0 := 63) (pc' := 8) rfl (hb hby d9_63) (by decide) (by decide) ?_
          refine XS.iload X0.here hx rfl (hb hby d9_8) rfl ?_
          refine XS.iload X0.here hx rfl (hb hby d9_10) rfl ?_
          show own_S p e below s₁ m 12 #[rv t, iv (0 : Int32), iv (3 : Int32), iv key, iv (2 : Int32), iv (1 : Int32), iv (2 : Int32), iv x2] [(.int (1 : Int32)), (.int (2 : Int32))] _
          refine XS.icmpYes X0.here hx rfl (pc0 := 12) (pc' := 66) rfl (hb hby d9_12) rfl (tlt (by decide : (1 : Int32) < (2 : Int32))).2.2.1 (by decide) (by decide) ?_
          refine XS.iload X0.here hx rfl (hb hby d9_66) rfl ?_
          refine XS.iconst X0.here hx rfl (hb hby d9_68) ?_
          show own_S p e below s₁ m 69 #[rv t, iv (0 : Int32), iv (3 : Int32), iv key, iv (2 : Int32), iv (1 : Int32), iv (2 : Int32), iv x2] [(.int (1 : Int32)), (.int (2 : Int32))] _
          refine XS.iadd X0.here hx rfl (hb hby d9_69) rfl ?_
          refine XS.ineg X0.here hx rfl (hb hby d9_70) rfl ?_
          exact k)
        obtain ⟨fs, hr, hrun, hended, hW, hsame⟩ := X0.leave (v := some (.int (-3 : Int32))) (fun h => by rw [Bd.returns] at h; cases h)
        refine ⟨_, _, pre10 _ ?_, hrun, hended, _, _, rfl, ?_, ⟨_, rfl⟩, hW, hsame.mono (by decide) (by decide)⟩
        · show own_S p e below s₁ m 71 #[rv t, iv (0 : Int32), iv (3 : Int32), iv key, iv (2 : Int32), iv (1 : Int32), iv (2 : Int32), iv x2] [(.int (-3 : Int32))] _
          exact retI X0 hx Bd.returns (hb hby d9_71) hr
        · show QB3 Z t key k x0 x1 x2 h0 n0 _ s₁.heap _
          rw [e0]
          exact ⟨_, rfl, N0, rfl, (Or.inr (Or.inr (Or.inr (Or.inr (Or.inr (Or.inl ⟨rfl, hc33_2, hc48_8⟩))))))⟩
      ·  -- pc 48 no
        have pre11 : ∀ tg, own_S p e below s₁ m 62 #[rv t, iv (0 : Int32), iv (3 : Int32), iv key, iv (2 : Int32), iv (2 : Int32), iv (2 : Int32), iv x2] [(.int (2 : Int32))] tg → Steps p.tables e below (s₁.setTop (entryFrame m #[(.ref t), (.int (0 : Int32)), (.int (3 : Int32)), (.int key)] 8)) tg := fun tg k => pre9 tg (by
          show own_S p e below s₁ m 48 #[rv t, iv (0 : Int32), iv (3 : Int32), iv key, iv (2 : Int32), iv (2 : Int32), iv (2 : Int32), iv x2] [(.int key), (.int x2)] _
          refine XS.icmpYes X0.here hx rfl (pc0 := 48) (pc' := 60) rfl (hb hby d9_48) rfl (flt hc48_8).2.2.2 (by decide) (by decide) ?_
          refine XS.iload X0.here hx rfl (hb hby d9_60) rfl ?_
          exact k)
        obtain ⟨fs, hr, hrun, hended, hW, hsame⟩ := X0.leave (v := some (.int (2 : Int32))) (fun h => by rw [Bd.returns] at h; cases h)
        refine ⟨_, _, pre11 _ ?_, hrun, hended, _, _, rfl, ?_, ⟨_, rfl⟩, hW, hsame.mono (by decide) (by decide)⟩
        · show own_S p e below s₁ m 62 #[rv t, iv (0 : Int32), iv (3 : Int32), iv key, iv (2 : Int32), iv (2 : Int32), iv (2 : Int32), iv x2] [(.int (2 : Int32))] _
          exact retI X0 hx Bd.returns (hb hby d9_62) hr
        · show QB3 Z t key k x0 x1 x2 h0 n0 _ s₁.heap _
          rw [e0]
          exact ⟨_, rfl, N0, rfl, (Or.inr (Or.inr (Or.inl ⟨rfl, own_eq hc33_5 hc48_8⟩)))⟩
  ·  -- pc 33 no
    have pre13 : ∀ tg, own_S p e below s₁ m 48 #[rv t, iv (0 : Int32), iv (3 : Int32), iv key, iv (0 : Int32), iv (2 : Int32), iv (1 : Int32), iv x1] [(.int key), (.int x1)] tg → Steps p.tables e below (s₁.setTop (entryFrame m #[(.ref t), (.int (0 : Int32)), (.int (3 : Int32)), (.int key)] 8)) tg := fun tg k => pre3 tg (by
      show own_S p e below s₁ m 33 #[rv t, iv (0 : Int32), iv (3 : Int32), iv key, iv (0 : Int32), iv (2 : Int32), iv (1 : Int32), iv x1] [(.int key), (.int x1)] _
      refine XS.icmpYes X0.here hx rfl (pc0 := 33) (pc' := 45) rfl (hb hby d9_33) rfl (flt hc33_2).2.1 (by decide) (by decide) ?_
      refine XS.iload X0.here hx rfl (hb hby d9_45) rfl ?_
      refine XS.iloadN X0.here hx rfl (hb hby d9_47) rfl ?_
      exact k)
    by_cases hc48_12 : key < x1
    ·  -- pc 48 yes
      obtain ⟨cl14, Ar14, q14, S14, M14, H14, G14⟩ := id V_t
      have hin14 : ¬ ((0 : Int32) < 0 ∨ cl14.slots.size ≤ ((0 : Int32)).toNatClampNeg) := inb_of S14 ⟨by decide, by decide⟩
      have hat14 : cl14.slots[((0 : Int32)).toNatClampNeg]? = some (.int x0) := H14.at hin14 rfl
      have pre16 : ∀ tg, own_S p e below s₁ m 33 #[rv t, iv (0 : Int32), iv (3 : Int32), iv key, iv (0 : Int32), iv (0 : Int32), iv (0 : Int32), iv x0] [(.int key), (.int x0)] tg → Steps p.tables e below (s₁.setTop (entryFrame m #[(.ref t), (.int (0 : Int32)), (.int (3 : Int32)), (.int key)] 8)) tg := fun tg k => pre13 tg (by
        show own_S p e below s₁ m 48 #[rv t, iv (0 : Int32), iv (3 : Int32), iv key, iv (0 : Int32), iv (2 : Int32), iv (1 : Int32), iv x1] [(.int key), (.int x1)] _
        refine XS.icmpNo X0.here hx rfl (hb hby d9_48) rfl (tlt hc48_12).2.2.2 ?_
        refine XS.iload X0.here hx rfl (hb hby d9_51) rfl ?_
        refine XS.iconst X0.here hx rfl (hb hby d9_53) ?_
        show own_S p e below s₁ m 54 #[rv t, iv (0 : Int32), iv (3 : Int32), iv key, iv (0 : Int32), iv (2 : Int32), iv (1 : Int32), iv x1] [(.int (1 : Int32)), (.int (1 : Int32))] _
        refine XS.isub X0.here hx rfl (hb hby d9_54) rfl ?_
        refine XS.istore X0.here hx rfl (hb hby d9_55) rfl (l' := #[rv t, iv (0 : Int32), iv (3 : Int32), iv key, iv (0 : Int32), iv (0 : Int32), iv (1 : Int32), iv x1]) rfl ?_
        refine XS.goto X0.here hx rfl (pc0 := 57) (pc' := 63) rfl (hb hby d9_57) (by decide) (by decide) ?_
        show own_S p e below s₁ m 63 #[rv t, iv (0 : Int32), iv (3 : Int32), iv key, iv (0 : Int32), iv (0 : Int32), iv (1 : Int32), iv x1] [] _
        refine XS.goto X0.here hx rfl (pc0 := 63) (pc' := 8) rfl (hb hby d9_63) (by decide) (by decide) ?_
        refine XS.iload X0.here hx rfl (hb hby d9_8) rfl ?_
        refine XS.iload X0.here hx rfl (hb hby d9_10) rfl ?_
        show own_S p e below s₁ m 12 #[rv t, iv (0 : Int32), iv (3 : Int32), iv key, iv (0 : Int32), iv (0 : Int32), iv (1 : Int32), iv x1] [(.int (0 : Int32)), (.int (0 : Int32))] _
        refine XS.icmpNo X0.here hx rfl (hb hby d9_12) rfl (flt (by decide : ¬ ((0 : Int32) < (0 : Int32)))).2.2.1 ?_
        refine XS.iload X0.here hx rfl (hb hby d9_15) rfl ?_
        refine XS.iload X0.here hx rfl (hb hby d9_17) rfl ?_
        show own_S p e below s₁ m 19 #[rv t, iv (0 : Int32), iv (3 : Int32), iv key, iv (0 : Int32), iv (0 : Int32), iv (1 : Int32), iv x1] [(.int (0 : Int32)), (.int (0 : Int32))] _
        refine XS.iadd X0.here hx rfl (hb hby d9_19) rfl ?_
        refine XS.iconst X0.here hx rfl (hb hby d9_20) ?_
        refine XS.iushr X0.here hx rfl (hb hby d9_21) rfl ?_
        show own_S p e below s₁ m 22 #[rv t, iv (0 : Int32), iv (3 : Int32), iv key, iv (0 : Int32), iv (0 : Int32), iv (1 : Int32), iv x1] [(.int (0 : Int32))] _
        refine XS.istore X0.here hx rfl (hb hby d9_22) rfl (l' := #[rv t, iv (0 : Int32), iv (3 : Int32), iv key, iv (0 : Int32), iv (0 : Int32), iv (0 : Int32), iv x1]) rfl ?_
        refine XS.aloadN X0.here hx rfl (hb hby d9_24) rfl rfl ?_
        refine XS.iload X0.here hx rfl (hb hby d9_25) rfl ?_
        show own_S p e below s₁ m 27 #[rv t, iv (0 : Int32), iv (3 : Int32), iv key, iv (0 : Int32), iv (0 : Int32), iv (0 : Int32), iv x1] [(.int (0 : Int32)), (.ref t)] _
        refine X0.caload hx (j := (0 : Int32)) (v := (.int x0)) (by rw [e0]; exact Ar14.1) (State.isArrayOf_alike hZ.alike Ar14.2.1) Ar14.2.2 hin14 hat14 (g := (mkF m 27 #[rv t, iv (0 : Int32), iv (3 : Int32), iv key, iv (0 : Int32), iv (0 : Int32), iv (0 : Int32), iv x1] [(.int (0 : Int32)), (.ref t)])) rfl rfl (hb hby d9_27) _ ?_
        refine XS.istore X0.here hx rfl (hb hby d9_28) rfl (l' := #[rv t, iv (0 : Int32), iv (3 : Int32), iv key, iv (0 : Int32), iv (0 : Int32), iv (0 : Int32), iv x0]) rfl ?_
        refine XS.iload X0.here hx rfl (hb hby d9_30) rfl ?_
        show own_S p e below s₁ m 32 #[rv t, iv (0 : Int32), iv (3 : Int32), iv key, iv (0 : Int32), iv (0 : Int32), iv (0 : Int32), iv x0] [(.int x0)] _
        refine XS.iloadN X0.here hx rfl (hb hby d9_32) rfl ?_
        exact k)
      by_cases hc33_15 : x0 < key
      ·  -- pc 33 yes
        have pre17 : ∀ tg, own_S p e below s₁ m 71 #[rv t, iv (0 : Int32), iv (3 : Int32), iv key, iv (1 : Int32), iv (0 : Int32), iv (0 : Int32), iv x0] [(.int (-2 : Int32))] tg → Steps p.tables e below (s₁.setTop (entryFrame m #[(.ref t), (.int (0 : Int32)), (.int (3 : Int32)), (.int key)] 8)) tg := fun tg k => pre16 tg (by
          show own_S p e below s₁ m 33 #[rv t, iv (0 : Int32), iv (3 : Int32), iv key, iv (0 : Int32), iv (0 : Int32), iv (0 : Int32), iv x0] [(.int key), (.int x0)] _
          refine XS.icmpNo X0.here hx rfl (hb hby d9_33) rfl (tlt hc33_15).2.1 ?_
          refine XS.iload X0.here hx rfl (hb hby d9_36) rfl ?_
          refine XS.iconst X0.here hx rfl (hb hby d9_38) ?_
          show own_S p e below s₁ m 39 #[rv t, iv (0 : Int32), iv (3 : Int32), iv key, iv (0 : Int32), iv (0 : Int32), iv (0 : Int32), iv x0] [(.int (1 : Int32)), (.int (0 : Int32))] _
          refine XS.iadd X0.here hx rfl (hb hby d9_39) rfl ?_
          refine XS.istore X0.here hx rfl (hb hby d9_40) rfl (l' := #[rv t, iv (0 : Int32), iv (3 : Int32), iv key, iv (1 : Int32), iv (0 : Int32), iv (0 : Int32), iv x0]) rfl ?_
          refine XS.goto X0.here hx rfl (pc0 := 42) (pc' := 63) rfl (hb hby d9_42) (by decide) (by decide) ?_
          show own_S p e below s₁ m 63 #[rv t, iv (0 : Int32), iv (3 : Int32), iv key, iv (1 : Int32), iv (0 : Int32), iv (0 : Int32), iv x0] [] _
          refine XS.goto X0.here hx rfl (pc0 := 63) (pc' := 8) rfl (hb hby d9_63) (by decide) (by decide) ?_
          refine XS.iload X0.here hx rfl (hb hby d9_8) rfl ?_
          refine XS.iload X0.here hx rfl (hb hby d9_10) rfl ?_
          show own_S p e below s₁ m 12 #[rv t, iv (0 : Int32), iv (3 : Int32), iv key, iv (1 : Int32), iv (0 : Int32), iv (0 : Int32), iv x0] [(.int (0 : Int32)), (.int (1 : Int32))] _
          refine XS.icmpYes X0.here hx rfl (pc0 := 12) (pc' := 66) rfl (hb hby d9_12) rfl (tlt (by decide : (0 : Int32) < (1 : Int32))).2.2.1 (by decide) (by decide) ?_
          refine XS.iload X0.here hx rfl (hb hby d9_66) rfl ?_
          refine XS.iconst X0.here hx rfl (hb hby d9_68) ?_
          show own_S p e below s₁ m 69 #[rv t, iv (0 : Int32), iv (3 : Int32), iv key, iv (1 : Int32), iv (0 : Int32), iv (0 : Int32), iv x0] [(.int (1 : Int32)), (.int (1 : Int32))] _
          refine XS.iadd X0.here hx rfl (hb hby d9_69) rfl ?_
          refine XS.ineg X0.here hx rfl (hb hby d9_70) rfl ?_
          exact k)
        obtain ⟨fs, hr, hrun, hended, hW, hsame⟩ := X0.leave (v := some (.int (-2 : Int32))) (fun h => by rw [Bd.returns] at h; cases h)
        refine ⟨_, _, pre17 _ ?_, hrun, hended, _, _, rfl, ?_, ⟨_, rfl⟩, hW, hsame.mono (by decide) (by decide)⟩
        · show own_S p e below s₁ m 71 #[rv t, iv (0 : Int32), iv (3 : Int32), iv key, iv (1 : Int32), iv (0 : Int32), iv (0 : Int32), iv x0] [(.int (-2 : Int32))] _
          exact retI X0 hx Bd.returns (hb hby d9_71) hr
        · show QB3 Z t key k x0 x1 x2 h0 n0 _ s₁.heap _
          rw [e0]
          exact ⟨_, rfl, N0, rfl, (Or.inr (Or.inr (Or.inr (Or.inr (Or.inl ⟨rfl, hc33_15, hc48_12⟩)))))⟩
      ·  -- pc 33 no
        have pre19 : ∀ tg, own_S p e below s₁ m 48 #[rv t, iv (0 : Int32), iv (3 : Int32), iv key, iv (0 : Int32), iv (0 : Int32), iv (0 : Int32), iv x0] [(.int key), (.int x0)] tg → Steps p.tables e below (s₁.setTop (entryFrame m #[(.ref t), (.int (0 : Int32)), (.int (3 : Int32)), (.int key)] 8)) tg := fun tg k => pre16 tg (by
          show own_S p e below s₁ m 33 #[rv t, iv (0 : Int32), iv (3 : Int32), iv key, iv (0 : Int32), iv (0 : Int32), iv (0 : Int32), iv x0] [(.int key), (.int x0)] _
          refine XS.icmpYes X0.here hx rfl (pc0 := 33) (pc' := 45) rfl (hb hby d9_33) rfl (flt hc33_15).2.1 (by decide) (by decide) ?_
          refine XS.iload X0.here hx rfl (hb hby d9_45) rfl ?_
          refine XS.iloadN X0.here hx rfl (hb hby d9_47) rfl ?_
          exact k)
        by_cases hc48_18 : key < x0
        ·  -- pc 48 yes
          have pre20 : ∀ tg, own_S p e below s₁ m 71 #[rv t, iv (0 : Int32), iv (3 : Int32), iv key, iv (0 : Int32), iv (-1 : Int32), iv (0 : Int32), iv x0] [(.int (-1 : Int32))] tg → Steps p.tables e below (s₁.setTop (entryFrame m #[(.ref t), (.int (0 : Int32)), (.int (3 : Int32)), (.int key)] 8)) tg := fun tg k => pre19 tg (by
            show own_S p e below s₁ m 48 #[rv t, iv (0 : Int32), iv (3 : Int32), iv key, iv (0 : Int32), iv (0 : Int32), iv (0 : Int32), iv x0] [(.int key), (.int x0)] _
            refine XS.icmpNo X0.here hx rfl (hb hby d9_48) rfl (tlt hc48_18).2.2.2 ?_
            refine XS.iload X0.here hx rfl (hb hby d9_51) rfl ?_
            refine XS.iconst X0.here hx rfl (hb hby d9_53) ?_
            show own_S p e below s₁ m 54 #[rv t, iv (0 : Int32), iv (3 : Int32), iv key, iv (0 : Int32), iv (0 : Int32), iv (0 : Int32), iv x0] [(.int (1 : Int32)), (.int (0 : Int32))] _
            refine XS.isub X0.here hx rfl (hb hby d9_54) rfl ?_
            refine XS.istore X0.here hx rfl (hb hby d9_55) rfl (l' := #[rv t, iv (0 : Int32), iv (3 : Int32), iv key, iv (0 : Int32), iv (-1 : Int32), iv (0 : Int32), iv x0]) rfl ?_
            refine XS.goto X0.here hx rfl (pc0 := 57) (pc' := 63) rfl (hb hby d9_57) (by decide) (by decide) ?_
            show own_S p e below s₁ m 63 #[rv t, iv (0 : Int32), iv (3 : Int32), iv key, iv (0 : Int32), iv (-1 : Int32), iv (0 : Int32), iv x0] [] _
            refine XS.goto X0.here hx rfl (pc0 := 63) (pc' := 8) rfl (hb hby d9_63) (by decide) (by decide) ?_
            refine XS.iload X0.here hx rfl (hb hby d9_8) rfl ?_
            refine XS.iload X0.here hx rfl (hb hby d9_10) rfl ?_
            show own_S p e below s₁ m 12 #[rv t, iv (0 : Int32), iv (3 : Int32), iv key, iv (0 : Int32), iv (-1 : Int32), iv (0 : Int32), iv x0] [(.int (-1 : Int32)), (.int (0 : Int32))] _
            refine XS.icmpYes X0.here hx rfl (pc0 := 12) (pc' := 66) rfl (hb hby d9_12) rfl (tlt (by decide : (-1 : Int32) < (0 : Int32))).2.2.1 (by decide) (by decide) ?_
            refine XS.iload X0.here hx rfl (hb hby d9_66) rfl ?_
            refine XS.iconst X0.here hx rfl (hb hby d9_68) ?_
            show own_S p e below s₁ m 69 #[rv t, iv (0 : Int32), iv (3 : Int32), iv key, iv (0 : Int32), iv (-1 : Int32), iv (0 : Int32), iv x0] [(.int (1 : Int32)), (.int (0 : Int32))] _
            refine XS.iadd X0.here hx rfl (hb hby d9_69) rfl ?_
            refine XS.ineg X0.here hx rfl (hb hby d9_70) rfl ?_
            exact k)
          obtain ⟨fs, hr, hrun, hended, hW, hsame⟩ := X0.leave (v := some (.int (-1 : Int32))) (fun h => by rw [Bd.returns] at h; cases h)
          refine ⟨_, _, pre20 _ ?_, hrun, hended, _, _, rfl, ?_, ⟨_, rfl⟩, hW, hsame.mono (by decide) (by decide)⟩
          · show own_S p e below s₁ m 71 #[rv t, iv (0 : Int32), iv (3 : Int32), iv key, iv (0 : Int32), iv (-1 : Int32), iv (0 : Int32), iv x0] [(.int (-1 : Int32))] _
            exact retI X0 hx Bd.returns (hb hby d9_71) hr
          · show QB3 Z t key k x0 x1 x2 h0 n0 _ s₁.heap _
            rw [e0]
            exact ⟨_, rfl, N0, rfl, (Or.inr (Or.inr (Or.inr (Or.inl ⟨rfl, hc48_18⟩))))⟩
        ·  -- pc 48 no
          have pre21 : ∀ tg, own_S p e below s₁ m 62 #[rv t, iv (0 : Int32), iv (3 : Int32), iv key, iv (0 : Int32), iv (0 : Int32), iv (0 : Int32), iv x0] [(.int (0 : Int32))] tg → Steps p.tables e below (s₁.setTop (entryFrame m #[(.ref t), (.int (0 : Int32)), (.int (3 : Int32)), (.int key)] 8)) tg := fun tg k => pre19 tg (by
            show own_S p e below s₁ m 48 #[rv t, iv (0 : Int32), iv (3 : Int32), iv key, iv (0 : Int32), iv (0 : Int32), iv (0 : Int32), iv x0] [(.int key), (.int x0)] _
            refine XS.icmpYes X0.here hx rfl (pc0 := 48) (pc' := 60) rfl (hb hby d9_48) rfl (flt hc48_18).2.2.2 (by decide) (by decide) ?_
            refine XS.iload X0.here hx rfl (hb hby d9_60) rfl ?_
            exact k)
          obtain ⟨fs, hr, hrun, hended, hW, hsame⟩ := X0.leave (v := some (.int (0 : Int32))) (fun h => by rw [Bd.returns] at h; cases h)
          refine ⟨_, _, pre21 _ ?_, hrun, hended, _, _, rfl, ?_, ⟨_, rfl⟩, hW, hsame.mono (by decide) (by decide)⟩
          · show own_S p e below s₁ m 62 #[rv t, iv (0 : Int32), iv (3 : Int32), iv key, iv (0 : Int32), iv (0 : Int32), iv (0 : Int32), iv x0] [(.int (0 : Int32))] _
            exact retI X0 hx Bd.returns (hb hby d9_62) hr
          · show QB3 Z t key k x0 x1 x2 h0 n0 _ s₁.heap _
            rw [e0]
            exact ⟨_, rfl, N0, rfl, (Or.inl ⟨rfl, own_eq hc33_15 hc48_18⟩)⟩
    ·  -- pc 48 no
      have pre22 : ∀ tg, own_S p e below s₁ m 62 #[rv t, iv (0 : Int32), iv (3 : Int32), iv key, iv (0 : Int32), iv (2 : Int32), iv (1 : Int32), iv x1] [(.int (1 : Int32))] tg → Steps p.tables e below (s₁.setTop (entryFrame m #[(.ref t), (.int (0 : Int32)), (.int (3 : Int32)), (.int key)] 8)) tg := fun tg k => pre13 tg (by
        show own_S p e below s₁ m 48 #[rv t, iv (0 : Int32), iv (3 : Int32), iv key, iv (0 : Int32), iv (2 : Int32), iv (1 : Int32), iv x1] [(.int key), (.int x1)] _
        refine XS.icmpYes X0.here hx rfl (pc0 := 48) (pc' := 60) rfl (hb hby d9_48) rfl (flt hc48_12).2.2.2 (by decide) (by decide) ?_
        refine XS.iload X0.here hx rfl (hb hby d9_60) rfl ?_
        exact k)
      obtain ⟨fs, hr, hrun, hended, hW, hsame⟩ := X0.leave (v := some (.int (1 : Int32))) (fun h => by rw [Bd.returns] at h; cases h)
      refine ⟨_, _, pre22 _ ?_, hrun, hended, _, _, rfl, ?_, ⟨_, rfl⟩, hW, hsame.mono (by decide) (by decide)⟩
      · show own_S p e below s₁ m 62 #[rv t, iv (0 : Int32), iv (3 : Int32), iv key, iv (0 : Int32), iv (2 : Int32), iv (1 : Int32), iv x1] [(.int (1 : Int32))] _
        exact retI X0 hx Bd.returns (hb hby d9_62) hr
      · show QB3 Z t key k x0 x1 x2 h0 n0 _ s₁.heap _
        rw [e0]
        exact ⟨_, rfl, N0, rfl, (Or.inr (Or.inl ⟨rfl, own_eq hc33_2 hc48_12⟩))⟩
theorem ef_S3 (m : MethodId) (t : Addr) (key : Int32) : entryFrame m #[(.ref t), (.int (0 : Int32)), (.int (3 : Int32)), (.int key)] 4 = mkF m 0 #[rv t, iv (0 : Int32), iv (3 : Int32), iv key] [] := by first | (simp [entryFrame, mkF, argsToLocals, Value.category]; done) | rfl
def QS3 (Z : State) (t : Addr) (key : Int32) (k : ClassId) (x0 : Int32) (x1 : Int32) (x2 : Int32) (h0 : Heap) (n0 : Nat) (v : Option Value) (h : Heap) (L : List Loc) : Prop := ∃ r : Int32, v = some (.int r) ∧ Fr n0 L ∧ h = h0 ∧ ((r = 0 ∧ x0 = key) ∨ (r = 1 ∧ x1 = key) ∨ (r = 2 ∧ x2 = key) ∨ (r = -1 ∧ key < x0) ∨ (r = -2 ∧ x0 < key ∧ key < x1) ∨ (r = -3 ∧ x1 < key ∧ key < x2) ∨ (r = -4 ∧ x2 < key))
set_option maxRecDepth 65536 in
set_option maxHeartbeats 40000000 in
theorem rmS3 (l : Launch) (Z : State) (a0 : Array Value) (hw : ∀ d ∈ tables_1, d.before a0 Z = true) (ws : List Jvm.Cond) (t : Addr) (key : Int32) (k : ClassId) (x0 : Int32) (x1 : Int32) (x2 : Int32) (h0 : Heap) (n0 : Nat) (Z0 : n0 ≤ h0.size) (V_t : Arv Z h0 t k .char (4 : Int32) [(.int x0), (.int x1), (.int x2), (.int (0 : Int32))] (.int (0 : Int32))) :
    MetFree l (⟨"java/util/Arrays", "binarySearch", "([CIIC)I"⟩ : MethodName) (head1 (Jvm.Cond.code (⟨"java/util/Arrays", "binarySearch", "([CIIC)I"⟩ : MethodName) jdk_65_method_64_code 4 (some .int) :: ws) ({ frames := 1, cells := 0, slots := 0, locals := 24 } : Room)) (fun a U => a = #[(.ref t), (.int (0 : Int32)), (.int (3 : Int32)), (.int key)] ∧ Z.Warmed39 U.vm ∧ U.heap = h0) (fun _ _ _ _ _ => True) (fun _ U o U' => ∃ v L, o = .returned v ∧ QS3 Z t key k x0 x1 x2 h0 n0 v U'.heap L ∧ FrameEnd U o U' L ({ frames := 1, cells := 0, slots := 0, locals := 24 } : Room).cells ({ frames := 1, cells := 0, slots := 0, locals := 24 } : Room).slots) := by
  refine MetFree.of_bodySF (plainFor_of_name pn_1) hisR ?_
  intro p e s m args below meth c s₁ Bd hml0 hP hK
  obtain ⟨rfl, hZ, hh⟩ := hP
  have hx := Bd.exec
  have hby := Bd.bytes
  have hml : c.maxLocals = 4 := hml0
  have hown : s.vm.findClass "java/util/Arrays" = some m.cls := findClass_of_methodNamed Bd.named
  have hnm := (name_of_methodNamed Bd.named Bd.method).1
  have X0 : Stand p l e ({ frames := 1, cells := 0, slots := 0, locals := 24 } : Room) s m #[(.ref t), (.int (0 : Int32)), (.int (3 : Int32)), (.int key)] below meth c s₁ [] 0 0 := Stand.of_body Bd
  have e0 : s₁.heap = h0 := by rw [← hh, Bd.state]; rfl
  have N0 := Fr.nil n0
  have pre0 : ∀ tg, Steps p.tables e below (s₁.setTop (mkF m 0 #[rv t, iv (0 : Int32), iv (3 : Int32), iv key] [])) tg → Steps p.tables e below (s₁.setTop (entryFrame m #[(.ref t), (.int (0 : Int32)), (.int (3 : Int32)), (.int key)] 4)) tg := fun tg k => castTop (ef_S3 m t key) k
  obtain ⟨cl1, Ar1, q1, S1, M1, -, -⟩ := id V_t
  obtain ⟨_, _, ⟨T2, L2, k2, n2⟩, -, X2, ⟨Lc2, hQ2, l2, y2, z2⟩, st2⟩ := Jvm.LawKit.callS X0 hx (y := (⟨"java/util/Arrays", "rangeCheck", "(III)V"⟩ : MethodName)) hown (mvT hZ (hw _ (List.mem_of_getElem? (i := 42) rfl))) (mvT hZ (hw _ (List.mem_of_getElem? (i := 43) rfl))) (mvT hZ (hw _ (List.mem_of_getElem? (i := 40) rfl))) (mvT hZ (hw _ (List.mem_of_getElem? (i := 44) rfl))) (by decide) (backOf (W := 0) (rmRC l Z a0 hw [] (4 : Int32) (0 : Int32) (3 : Int32) h0 n0 Z0 (by decide) (by decide) (by decide)) hZ (hw _ (List.mem_of_getElem? (i := 44) rfl)) (hw _ (List.mem_of_getElem? (i := 40) rfl)) (by decide) (by decide)) (g := (mkF m 4 #[rv t, iv (0 : Int32), iv (3 : Int32), iv key] [(.int (3 : Int32)), (.int (0 : Int32)), (.int (4 : Int32))])) rfl (by rw [hml]; rfl) (argsL := [(.int (4 : Int32)), (.int (0 : Int32)), (.int (3 : Int32))]) (rest := []) (lenOf pd_0 rfl) rfl (by show 2 * 0 + _ ≤ _; exact Nat.le_of_eq rfl) (hb hby d7_4) (fun _ _ => ⟨rfl, e0, (by decide : 0 + 0 ≤ _), (by decide : 0 + 0 ≤ _)⟩)
  dsimp only [Pt.U, Pt.locs, Pt.cells, Pt.slots] at X2 l2 y2 z2 st2 hQ2
  subst l2 y2 z2
  obtain ⟨rfl, N2q, e2q⟩ := hQ2
  have N2 := Fr.app N0 N2q
  have e2 : T2.heap = h0 := e2q
  obtain ⟨_, _, ⟨T3, L3, k3, n3⟩, -, X3, ⟨Lc3, hQ3, l3, y3, z3⟩, st3⟩ := Jvm.LawKit.callS X2 hx (y := (⟨"java/util/Arrays", "binarySearch0", "([CIIC)I"⟩ : MethodName)) hown (mvT hZ (hw _ (List.mem_of_getElem? (i := 45) rfl))) (mvT hZ (hw _ (List.mem_of_getElem? (i := 46) rfl))) (mvT hZ (hw _ (List.mem_of_getElem? (i := 40) rfl))) (mvT hZ (hw _ (List.mem_of_getElem? (i := 47) rfl))) (by decide) (backOf (W := 0) (rmB3 l Z a0 hw [] t key k x0 x1 x2 h0 n0 Z0 V_t) hZ (hw _ (List.mem_of_getElem? (i := 47) rfl)) (hw _ (List.mem_of_getElem? (i := 40) rfl)) (by decide) (by decide)) (g := (mkF m 11 #[rv t, iv (0 : Int32), iv (3 : Int32), iv key] [(.int key), (.int (3 : Int32)), (.int (0 : Int32)), (.ref t)])) rfl (by rw [hml]; rfl) (argsL := [(.ref t), (.int (0 : Int32)), (.int (3 : Int32)), (.int key)]) (rest := []) (lenOf pd_1 rfl) rfl (by show 2 * 0 + _ ≤ _; exact Nat.le_of_eq rfl) (hb hby d7_11) (fun _ _ => ⟨rfl, e2, (by decide : 0 + 0 ≤ _), (by decide : 0 + 0 ≤ _)⟩)
  dsimp only [Pt.U, Pt.locs, Pt.cells, Pt.slots] at X3 l3 y3 z3 st3 hQ3
  subst l3 y3 z3
  obtain ⟨r3, rfl, N3q, e3q, hD3⟩ := hQ3
  have N3 := Fr.app N2 N3q
  have e3 : T3.heap = h0 := e3q
  have pre4 : ∀ tg, own_S p e below T3 m 14 #[rv t, iv (0 : Int32), iv (3 : Int32), iv key] [(.int r3)] tg → Steps p.tables e below (s₁.setTop (entryFrame m #[(.ref t), (.int (0 : Int32)), (.int (3 : Int32)), (.int key)] 4)) tg := fun tg k => pre0 tg (by
    show own_S p e below s₁ m 0 #[rv t, iv (0 : Int32), iv (3 : Int32), iv key] [] _
    refine XS.aloadN X0.here hx rfl (hb hby d7_0) rfl rfl ?_
    refine X0.arraylength hx (by rw [e0]; exact Ar1.1) (State.isArrayOf_alike hZ.alike Ar1.2.1) (g := (mkF m 1 #[rv t, iv (0 : Int32), iv (3 : Int32), iv key] [(.ref t)])) rfl rfl (hb hby d7_1) _ ?_
    rw [len_of S1 M1]
    refine XS.iloadN X0.here hx rfl (hb hby d7_2) rfl ?_
    show own_S p e below s₁ m 3 #[rv t, iv (0 : Int32), iv (3 : Int32), iv key] [(.int (0 : Int32)), (.int (4 : Int32))] _
    refine XS.iloadN X0.here hx rfl (hb hby d7_3) rfl ?_
    refine st2 _ ?_
    refine XS.aloadN X2.here hx rfl (hb hby d7_7) rfl rfl ?_
    show own_S p e below T2 m 8 #[rv t, iv (0 : Int32), iv (3 : Int32), iv key] [(.ref t)] _
    refine XS.iloadN X2.here hx rfl (hb hby d7_8) rfl ?_
    refine XS.iloadN X2.here hx rfl (hb hby d7_9) rfl ?_
    refine XS.iloadN X2.here hx rfl (hb hby d7_10) rfl ?_
    show own_S p e below T2 m 11 #[rv t, iv (0 : Int32), iv (3 : Int32), iv key] [(.int key), (.int (3 : Int32)), (.int (0 : Int32)), (.ref t)] _
    refine st3 _ ?_
    exact k)
  obtain ⟨fs, hr, hrun, hended, hW, hsame⟩ := X3.leave (v := some (.int r3)) (fun h => by rw [Bd.returns] at h; cases h)
  refine ⟨_, _, pre4 _ ?_, hrun, hended, _, _, rfl, ?_, ⟨_, rfl⟩, hW, hsame.mono (by decide) (by decide)⟩
  · show own_S p e below T3 m 14 #[rv t, iv (0 : Int32), iv (3 : Int32), iv key] [(.int r3)] _
    exact retI X3 hx Bd.returns (hb hby d7_14) hr
  · show QS3 Z t key k x0 x1 x2 h0 n0 _ T3.heap _
    rw [e3]
    exact ⟨_, rfl, N3, rfl, hD3⟩
theorem ef_B4 (m : MethodId) (t : Addr) (key : Int32) : entryFrame m #[(.ref t), (.int (0 : Int32)), (.int (4 : Int32)), (.int key)] 8 = mkF m 0 #[rv t, iv (0 : Int32), iv (4 : Int32), iv key, .unset, .unset, .unset, .unset] [] := by first | (simp [entryFrame, mkF, argsToLocals, Value.category]; done) | rfl
def QB4 (Z : State) (t : Addr) (key : Int32) (k : ClassId) (x0 : Int32) (x1 : Int32) (x2 : Int32) (x3 : Int32) (h0 : Heap) (n0 : Nat) (v : Option Value) (h : Heap) (L : List Loc) : Prop := ∃ r : Int32, v = some (.int r) ∧ Fr n0 L ∧ h = h0 ∧ ((r = 0 ∧ x0 = key) ∨ (r = 1 ∧ x1 = key) ∨ (r = 2 ∧ x2 = key) ∨ (r = 3 ∧ x3 = key) ∨ (r = -1 ∧ key < x0) ∨ (r = -2 ∧ x0 < key ∧ key < x1) ∨ (r = -3 ∧ x1 < key ∧ key < x2) ∨ (r = -4 ∧ x2 < key ∧ key < x3) ∨ (r = -5 ∧ x3 < key))
set_option maxRecDepth 65536 in
set_option maxHeartbeats 40000000 in
theorem rmB4 (l : Launch) (Z : State) (a0 : Array Value) (hw : ∀ d ∈ tables_1, d.before a0 Z = true) (ws : List Jvm.Cond) (t : Addr) (key : Int32) (k : ClassId) (x0 : Int32) (x1 : Int32) (x2 : Int32) (x3 : Int32) (h0 : Heap) (n0 : Nat) (Z0 : n0 ≤ h0.size) (V_t : Arv Z h0 t k .char (4 : Int32) [(.int x0), (.int x1), (.int x2), (.int x3)] (.int (0 : Int32))) :
    MetFree l (⟨"java/util/Arrays", "binarySearch0", "([CIIC)I"⟩ : MethodName) (head1 (Jvm.Cond.code (⟨"java/util/Arrays", "binarySearch0", "([CIIC)I"⟩ : MethodName) jdk_65_method_65_code 8 (some .int) :: ws) ({ frames := 0, cells := 0, slots := 0, locals := 0 } : Room)) (fun a U => a = #[(.ref t), (.int (0 : Int32)), (.int (4 : Int32)), (.int key)] ∧ Z.Warmed39 U.vm ∧ U.heap = h0) (fun _ _ _ _ _ => True) (fun _ U o U' => ∃ v L, o = .returned v ∧ QB4 Z t key k x0 x1 x2 x3 h0 n0 v U'.heap L ∧ FrameEnd U o U' L ({ frames := 0, cells := 0, slots := 0, locals := 0 } : Room).cells ({ frames := 0, cells := 0, slots := 0, locals := 0 } : Room).slots) := by
  refine MetFree.of_bodySF (plainFor_of_name pn_1) hisR ?_
  intro p e s m args below meth c s₁ Bd hml0 hP hK
  obtain ⟨rfl, hZ, hh⟩ := hP
  have hx := Bd.exec
  have hby := Bd.bytes
  have hml : c.maxLocals = 8 := hml0
  have hown : s.vm.findClass "java/util/Arrays" = some m.cls := findClass_of_methodNamed Bd.named
  have hnm := (name_of_methodNamed Bd.named Bd.method).1
  have X0 : Stand p l e ({ frames := 0, cells := 0, slots := 0, locals := 0 } : Room) s m #[(.ref t), (.int (0 : Int32)), (.int (4 : Int32)), (.int key)] below meth c s₁ [] 0 0 := Stand.of_body Bd
  have e0 : s₁.heap = h0 := by rw [← hh, Bd.state]; rfl
  have N0 := Fr.nil n0
  have pre0 : ∀ tg, Steps p.tables e below (s₁.setTop (mkF m 0 #[rv t, iv (0 : Int32), iv (4 : Int32), iv key, .unset, .unset, .unset, .unset] [])) tg → Steps p.tables e below (s₁.setTop (entryFrame m #[(.ref t), (.int (0 : Int32)), (.int (4 : Int32)), (.int key)] 8)) tg := fun tg k => castTop (ef_B4 m t key) k
  obtain ⟨cl1, Ar1, q1, S1, M1, H1, G1⟩ := id V_t
  have hin1 : ¬ ((1 : Int32) < 0 ∨ cl1.slots.size ≤ ((1 : Int32)).toNatClampNeg) := inb_of S1 ⟨by decide, by decide⟩
  have hat1 : cl1.slots[((1 : Int32)).toNatClampNeg]? = some (.int x1) := H1.at hin1 rfl
  have pre3 : ∀ tg, own_S p e below s₁ m 33 #[rv t, iv (0 : Int32), iv (4 : Int32), iv key, iv (0 : Int32), iv (3 : Int32), iv (1 : Int32), iv x1] [(.int key), (.int x1)] tg → Steps p.tables e below (s₁.setTop (entryFrame m #[(.ref t), (.int (0 : Int32)), (.int (4 : Int32)), (.int key)] 8)) tg := fun tg k => pre0 tg (by
    show own_S p e below s₁ m 0 #[rv t, iv (0 : Int32), iv (4 : Int32), iv key, .unset, .unset, .unset, .unset] [] _
    refine XS.iloadN X0.here hx rfl (hb hby d9_0) rfl ?_
    refine XS.istore X0.here hx rfl (hb hby d9_1) rfl (l' := #[rv t, iv (0 : Int32), iv (4 : Int32), iv key, iv (0 : Int32), .unset, .unset, .unset]) rfl ?_
    refine XS.iloadN X0.here hx rfl (hb hby d9_3) rfl ?_
    show own_S p e below s₁ m 4 #[rv t, iv (0 : Int32), iv (4 : Int32), iv key, iv (0 : Int32), .unset, .unset, .unset] [(.int (4 : Int32))] _
    refine XS.iconst X0.here hx rfl (hb hby d9_4) ?_
    refine XS.isub X0.here hx rfl (hb hby d9_5) rfl ?_
    refine XS.istore X0.here hx rfl (hb hby d9_6) rfl (l' := #[rv t, iv (0 : Int32), iv (4 : Int32), iv key, iv (0 : Int32), iv (3 : Int32), .unset, .unset]) rfl ?_
    show own_S p e below s₁ m 8 #[rv t, iv (0 : Int32), iv (4 : Int32), iv key, iv (0 : Int32), iv (3 : Int32), .unset, .unset] [] _
    refine XS.iload X0.here hx rfl (hb hby d9_8) rfl ?_
    refine XS.iload X0.here hx rfl (hb hby d9_10) rfl ?_
    refine XS.icmpNo X0.here hx rfl (hb hby d9_12) rfl (flt (by decide : ¬ ((3 : Int32) < (0 : Int32)))).2.2.1 ?_
    show own_S p e below s₁ m 15 #[rv t, iv (0 : Int32), iv (4 : Int32), iv key, iv (0 : Int32), iv (3 : Int32), .unset, .unset] [] _
    refine XS.iload X0.here hx rfl (hb hby d9_15) rfl ?_
    refine XS.iload X0.here hx rfl (hb hby d9_17) rfl ?_
    refine XS.iadd X0.here hx rfl (hb hby d9_19) rfl ?_
    show own_S p e below s₁ m 20 #[rv t, iv (0 : Int32), iv (4 : Int32), iv key, iv (0 : Int32), iv (3 : Int32), .unset, .unset] [(.int (3 : Int32))] _
    refine XS.iconst X0.here hx rfl (hb hby d9_20) ?_
    refine XS.iushr X0.here hx rfl (hb hby d9_21) rfl ?_
    refine XS.istore X0.here hx rfl (hb hby d9_22) rfl (l' := #[rv t, iv (0 : Int32), iv (4 : Int32), iv key, iv (0 : Int32), iv (3 : Int32), iv (1 : Int32), .unset]) rfl ?_
    show own_S p e below s₁ m 24 #[rv t, iv (0 : Int32), iv (4 : Int32), iv key, iv (0 : Int32), iv (3 : Int32), iv (1 : Int32), .unset] [] _
    refine XS.aloadN X0.here hx rfl (hb hby d9_24) rfl rfl ?_
    refine XS.iload X0.here hx rfl (hb hby d9_25) rfl ?_
    refine X0.caload hx (j := (1 : Int32)) (v := (.int x1)) (by rw [e0]; exact Ar1.1) (State.isArrayOf_alike hZ.alike Ar1.2.1) Ar1.2.2 hin1 hat1 (g := (mkF m 27 #[rv t, iv (0 : Int32), iv (4 : Int32), iv key, iv (0 : Int32), iv (3 : Int32), iv (1 : Int32), .unset] [(.int (1 : Int32)), (.ref t)])) rfl rfl (hb hby d9_27) _ ?_
    show own_S p e below s₁ m 28 #[rv t, iv (0 : Int32), iv (4 : Int32), iv key, iv (0 : Int32), iv (3 : Int32), iv (1 : Int32), .unset] [(.int x1)] _
    refine XS.istore X0.here hx rfl (hb hby d9_28) rfl (l' := #[rv t, iv (0 : Int32), iv (4 : Int32), iv key, iv (0 : Int32), iv (3 : Int32), iv (1 : Int32), iv x1]) rfl ?_
    refine XS.iload X0.here hx rfl (hb hby d9_30) rfl ?_
    refine XS.iloadN X0.here hx rfl (hb hby d9_32) rfl ?_
    exact k)
  by_cases hc33_2 : x1 < key
  ·  -- pc 33 yes
    obtain ⟨cl4, Ar4, q4, S4, M4, H4, G4⟩ := id V_t
    have hin4 : ¬ ((2 : Int32) < 0 ∨ cl4.slots.size ≤ ((2 : Int32)).toNatClampNeg) := inb_of S4 ⟨by decide, by decide⟩
    have hat4 : cl4.slots[((2 : Int32)).toNatClampNeg]? = some (.int x2) := H4.at hin4 rfl
    have pre6 : ∀ tg, own_S p e below s₁ m 33 #[rv t, iv (0 : Int32), iv (4 : Int32), iv key, iv (2 : Int32), iv (3 : Int32), iv (2 : Int32), iv x2] [(.int key), (.int x2)] tg → Steps p.tables e below (s₁.setTop (entryFrame m #[(.ref t), (.int (0 : Int32)), (.int (4 : Int32)), (.int key)] 8)) tg := fun tg k => pre3 tg (by
      show own_S p e below s₁ m 33 #[rv t, iv (0 : Int32), iv (4 : Int32), iv key, iv (0 : Int32), iv (3 : Int32), iv (1 : Int32), iv x1] [(.int key), (.int x1)] _
      refine XS.icmpNo X0.here hx rfl (hb hby d9_33) rfl (tlt hc33_2).2.1 ?_
      refine XS.iload X0.here hx rfl (hb hby d9_36) rfl ?_
      refine XS.iconst X0.here hx rfl (hb hby d9_38) ?_
      show own_S p e below s₁ m 39 #[rv t, iv (0 : Int32), iv (4 : Int32), iv key, iv (0 : Int32), iv (3 : Int32), iv (1 : Int32), iv x1] [(.int (1 : Int32)), (.int (1 : Int32))] _
      refine XS.iadd X0.here hx rfl (hb hby d9_39) rfl ?_
      refine XS.istore X0.here hx rfl (hb hby d9_40) rfl (l' := #[rv t, iv (0 : Int32), iv (4 : Int32), iv key, iv (2 : Int32), iv (3 : Int32), iv (1 : Int32), iv x1]) rfl ?_
      refine XS.goto X0.here hx rfl (pc0 := 42) (pc' := 63) rfl (hb hby d9_42) (by decide) (by decide) ?_
      show own_S p e below s₁ m 63 #[rv t, iv (0 : Int32), iv (4 : Int32), iv key, iv (2 : Int32), iv (3 : Int32), iv (1 : Int32), iv x1] [] _
      refine XS.goto X0.here hx rfl (pc0 := 63) (pc' := 8) rfl (hb hby d9_63) (by decide) (by decide) ?_
      refine XS.iload X0.here hx rfl (hb hby d9_8) rfl ?_
      refine XS.iload X0.here hx rfl (hb hby d9_10) rfl ?_
      show own_S p e below s₁ m 12 #[rv t, iv (0 : Int32), iv (4 : Int32), iv key, iv (2 : Int32), iv (3 : Int32), iv (1 : Int32), iv x1] [(.int (3 : Int32)), (.int (2 : Int32))] _
      refine XS.icmpNo X0.here hx rfl (hb hby d9_12) rfl (flt (by decide : ¬ ((3 : Int32) < (2 : Int32)))).2.2.1 ?_
      refine XS.iload X0.here hx rfl (hb hby d9_15) rfl ?_
      refine XS.iload X0.here hx rfl (hb hby d9_17) rfl ?_
      show own_S p e below s₁ m 19 #[rv t, iv (0 : Int32), iv (4 : Int32), iv key, iv (2 : Int32), iv (3 : Int32), iv (1 : Int32), iv x1] [(.int (3 : Int32)), (.int (2 : Int32))] _
      refine XS.iadd X0.here hx rfl (hb hby d9_19) rfl ?_
      refine XS.iconst X0.here hx rfl (hb hby d9_20) ?_
      refine XS.iushr X0.here hx rfl (hb hby d9_21) rfl ?_
      show own_S p e below s₁ m 22 #[rv t, iv (0 : Int32), iv (4 : Int32), iv key, iv (2 : Int32), iv (3 : Int32), iv (1 : Int32), iv x1] [(.int (2 : Int32))] _
      refine XS.istore X0.here hx rfl (hb hby d9_22) rfl (l' := #[rv t, iv (0 : Int32), iv (4 : Int32), iv key, iv (2 : Int32), iv (3 : Int32), iv (2 : Int32), iv x1]) rfl ?_
      refine XS.aloadN X0.here hx rfl (hb hby d9_24) rfl rfl ?_
      refine XS.iload X0.here hx rfl (hb hby d9_25) rfl ?_
      show own_S p e below s₁ m 27 #[rv t, iv (0 : Int32), iv (4 : Int32), iv key, iv (2 : Int32), iv (3 : Int32), iv (2 : Int32), iv x1] [(.int (2 : Int32)), (.ref t)] _
      refine X0.caload hx (j := (2 : Int32)) (v := (.int x2)) (by rw [e0]; exact Ar4.1) (State.isArrayOf_alike hZ.alike Ar4.2.1) Ar4.2.2 hin4 hat4 (g := (mkF m 27 #[rv t, iv (0 : Int32), iv (4 : Int32), iv key, iv (2 : Int32), iv (3 : Int32), iv (2 : Int32), iv x1] [(.int (2 : Int32)), (.ref t)])) rfl rfl (hb hby d9_27) _ ?_
      refine XS.istore X0.here hx rfl (hb hby d9_28) rfl (l' := #[rv t, iv (0 : Int32), iv (4 : Int32), iv key, iv (2 : Int32), iv (3 : Int32), iv (2 : Int32), iv x2]) rfl ?_
      refine XS.iload X0.here hx rfl (hb hby d9_30) rfl ?_
      show own_S p e below s₁ m 32 #[rv t, iv (0 : Int32), iv (4 : Int32), iv key, iv (2 : Int32), iv (3 : Int32), iv (2 : Int32), iv x2] [(.int x2)] _
      refine XS.iloadN X0.here hx rfl (hb hby d9_32) rfl ?_
      exact k)
    by_cases hc33_5 : x2 < key
    ·  -- pc 33 yes
      obtain ⟨cl7, Ar7, q7, S7, M7, H7, G7⟩ := id V_t
      have hin7 : ¬ ((3 : Int32) < 0 ∨ cl7.slots.size ≤ ((3 : Int32)).toNatClampNeg) := inb_of S7 ⟨by decide, by decide⟩
      have hat7 : cl7.slots[((3 : Int32)).toNatClampNeg]? = some (.int x3) := H7.at hin7 rfl
      have pre9 : ∀ tg, own_S p e below s₁ m 33 #[rv t, iv (0 : Int32), iv (4 : Int32), iv key, iv (3 : Int32), iv (3 : Int32), iv (3 : Int32), iv x3] [(.int key), (.int x3)] tg → Steps p.tables e below (s₁.setTop (entryFrame m #[(.ref t), (.int (0 : Int32)), (.int (4 : Int32)), (.int key)] 8)) tg := fun tg k => pre6 tg (by
        show own_S p e below s₁ m 33 #[rv t, iv (0 : Int32), iv (4 : Int32), iv key, iv (2 : Int32), iv (3 : Int32), iv (2 : Int32), iv x2] [(.int key), (.int x2)] _
        refine XS.icmpNo X0.here hx rfl (hb hby d9_33) rfl (tlt hc33_5).2.1 ?_
        refine XS.iload X0.here hx rfl (hb hby d9_36) rfl ?_
        refine XS.iconst X0.here hx rfl (hb hby d9_38) ?_
        show own_S p e below s₁ m 39 #[rv t, iv (0 : Int32), iv (4 : Int32), iv key, iv (2 : Int32), iv (3 : Int32), iv (2 : Int32), iv x2] [(.int (1 : Int32)), (.int (2 : Int32))] _
        refine XS.iadd X0.here hx rfl (hb hby d9_39) rfl ?_
        refine XS.istore X0.here hx rfl (hb hby d9_40) rfl (l' := #[rv t, iv (0 : Int32), iv (4 : Int32), iv key, iv (3 : Int32), iv (3 : Int32), iv (2 : Int32), iv x2]) rfl ?_
        refine XS.goto X0.here hx rfl (pc0 := 42) (pc' := 63) rfl (hb hby d9_42) (by decide) (by decide) ?_
        show own_S p e below s₁ m 63 #[rv t, iv (0 : Int32), iv (4 : Int32), iv key, iv (3 : Int32), iv (3 : Int32), iv (2 : Int32), iv x2] [] _
        refine XS.goto X0.here hx rfl (pc0 := 63) (pc' := 8) rfl (hb hby d9_63) (by decide) (by decide) ?_
        refine XS.iload X0.here hx rfl (hb hby d9_8) rfl ?_
        refine XS.iload X0.here hx rfl (hb hby d9_10) rfl ?_
        show own_S p e below s₁ m 12 #[rv t, iv (0 : Int32), iv (4 : Int32), iv key, iv (3 : Int32), iv (3 : Int32), iv (2 : Int32), iv x2] [(.int (3 : Int32)), (.int (3 : Int32))] _
        refine XS.icmpNo X0.here hx rfl (hb hby d9_12) rfl (flt (by decide : ¬ ((3 : Int32) < (3 : Int32)))).2.2.1 ?_
        refine XS.iload X0.here hx rfl (hb hby d9_15) rfl ?_
        refine XS.iload X0.here hx rfl (hb hby d9_17) rfl ?_
        show own_S p e below s₁ m 19 #[rv t, iv (0 : Int32), iv (4 : Int32), iv key, iv (3 : Int32), iv (3 : Int32), iv (2 : Int32), iv x2] [(.int (3 : Int32)), (.int (3 : Int32))] _
        refine XS.iadd X0.here hx rfl (hb hby d9_19) rfl ?_
        refine XS.iconst X0.here hx rfl (hb hby d9_20) ?_
        refine XS.iushr X0.here hx rfl (hb hby d9_21) rfl ?_
        show own_S p e below s₁ m 22 #[rv t, iv (0 : Int32), iv (4 : Int32), iv key, iv (3 : Int32), iv (3 : Int32), iv (2 : Int32), iv x2] [(.int (3 : Int32))] _
        refine XS.istore X0.here hx rfl (hb hby d9_22) rfl (l' := #[rv t, iv (0 : Int32), iv (4 : Int32), iv key, iv (3 : Int32), iv (3 : Int32), iv (3 : Int32), iv x2]) rfl ?_
        refine XS.aloadN X0.here hx rfl (hb hby d9_24) rfl rfl ?_
        refine XS.iload X0.here hx rfl (hb hby d9_25) rfl ?_
        show own_S p e below s₁ m 27 #[rv t, iv (0 : Int32), iv (4 : Int32), iv key, iv (3 : Int32), iv (3 : Int32), iv (3 : Int32), iv x2] [(.int (3 : Int32)), (.ref t)] _
        refine X0.caload hx (j := (3 : Int32)) (v := (.int x3)) (by rw [e0]; exact Ar7.1) (State.isArrayOf_alike hZ.alike Ar7.2.1) Ar7.2.2 hin7 hat7 (g := (mkF m 27 #[rv t, iv (0 : Int32), iv (4 : Int32), iv key, iv (3 : Int32), iv (3 : Int32), iv (3 : Int32), iv x2] [(.int (3 : Int32)), (.ref t)])) rfl rfl (hb hby d9_27) _ ?_
        refine XS.istore X0.here hx rfl (hb hby d9_28) rfl (l' := #[rv t, iv (0 : Int32), iv (4 : Int32), iv key, iv (3 : Int32), iv (3 : Int32), iv (3 : Int32), iv x3]) rfl ?_
        refine XS.iload X0.here hx rfl (hb hby d9_30) rfl ?_
        show own_S p e below s₁ m 32 #[rv t, iv (0 : Int32), iv (4 : Int32), iv key, iv (3 : Int32), iv (3 : Int32), iv (3 : Int32), iv x3] [(.int x3)] _
        refine XS.iloadN X0.here hx rfl (hb hby d9_32) rfl ?_
        exact k)
      by_cases hc33_8 : x3 < key
      ·  -- pc 33 yes
        have pre10 : ∀ tg, own_S p e below s₁ m 71 #[rv t, iv (0 : Int32), iv (4 : Int32), iv key, iv (4 : Int32), iv (3 : Int32), iv (3 : Int32), iv x3] [(.int (-5 : Int32))] tg → Steps p.tables e below (s₁.setTop (entryFrame m #[(.ref t), (.int (0 : Int32)), (.int (4 : Int32)), (.int key)] 8)) tg := fun tg k => pre9 tg (by
          show own_S p e below s₁ m 33 #[rv t, iv (0 : Int32), iv (4 : Int32), iv key, iv (3 : Int32), iv (3 : Int32), iv (3 : Int32), iv x3] [(.int key), (.int x3)] _
          refine XS.icmpNo X0.here hx rfl (hb hby d9_33) rfl (tlt hc33_8).2.1 ?_
          refine XS.iload X0.here hx rfl (hb hby d9_36) rfl ?_
          refine XS.iconst X0.here hx rfl (hb hby d9_38) ?_
          show own_S p e below s₁ m 39 #[rv t, iv (0 : Int32), iv (4 : Int32), iv key, iv (3 : Int32), iv (3 : Int32), iv (3 : Int32), iv x3] [(.int (1 : Int32)), (.int (3 : Int32))] _
          refine XS.iadd X0.here hx rfl (hb hby d9_39) rfl ?_
          refine XS.istore X0.here hx rfl (hb hby d9_40) rfl (l' := #[rv t, iv (0 : Int32), iv (4 : Int32), iv key, iv (4 : Int32), iv (3 : Int32), iv (3 : Int32), iv x3]) rfl ?_
          refine XS.goto X0.here hx rfl (pc0 := 42) (pc' := 63) rfl (hb hby d9_42) (by decide) (by decide) ?_
          show own_S p e below s₁ m 63 #[rv t, iv (0 : Int32), iv (4 : Int32), iv key, iv (4 : Int32), iv (3 : Int32), iv (3 : Int32), iv x3] [] _
          refine XS.goto X0.here hx rfl (pc0 := 63) (pc' := 8) rfl (hb hby d9_63) (by decide) (by decide) ?_
          refine XS.iload X0.here hx rfl (hb hby d9_8) rfl ?_
          refine XS.iload X0.here hx rfl (hb hby d9_10) rfl ?_
          show own_S p e below s₁ m 12 #[rv t, iv (0 : Int32), iv (4 : Int32), iv key, iv (4 : Int32), iv (3 : Int32), iv (3 : Int32), iv x3] [(.int (3 : Int32)), (.int (4 : Int32))] _
          refine XS.icmpYes X0.here hx rfl (pc0 := 12) (pc' := 66) rfl (hb hby d9_12) rfl (tlt (by decide : (3 : Int32) < (4 : Int32))).2.2.1 (by decide) (by decide) ?_
          refine XS.iload X0.here hx rfl (hb hby d9_66) rfl ?_
          refine XS.iconst X0.here hx rfl (hb hby d9_68) ?_
          show own_S p e below s₁ m 69 #[rv t, iv (0 : Int32), iv (4 : Int32), iv key, iv (4 : Int32), iv (3 : Int32), iv (3 : Int32), iv x3] [(.int (1 : Int32)), (.int (4 : Int32))] _
          refine XS.iadd X0.here hx rfl (hb hby d9_69) rfl ?_
          refine XS.ineg X0.here hx rfl (hb hby d9_70) rfl ?_
          exact k)
        obtain ⟨fs, hr, hrun, hended, hW, hsame⟩ := X0.leave (v := some (.int (-5 : Int32))) (fun h => by rw [Bd.returns] at h; cases h)
        refine ⟨_, _, pre10 _ ?_, hrun, hended, _, _, rfl, ?_, ⟨_, rfl⟩, hW, hsame.mono (by decide) (by decide)⟩
        · show own_S p e below s₁ m 71 #[rv t, iv (0 : Int32), iv (4 : Int32), iv key, iv (4 : Int32), iv (3 : Int32), iv (3 : Int32), iv x3] [(.int (-5 : Int32))] _
          exact retI X0 hx Bd.returns (hb hby d9_71) hr
        · show QB4 Z t key k x0 x1 x2 x3 h0 n0 _ s₁.heap _
          rw [e0]
          exact ⟨_, rfl, N0, rfl, (Or.inr (Or.inr (Or.inr (Or.inr (Or.inr (Or.inr (Or.inr (Or.inr (⟨rfl, hc33_8⟩)))))))))⟩
      ·  -- pc 33 no
        have pre12 : ∀ tg, own_S p e below s₁ m 48 #[rv t, iv (0 : Int32), iv (4 : Int32), iv key, iv (3 : Int32), iv (3 : Int32), iv (3 : Int32), iv x3] [(.int key), (.int x3)] tg → Steps p.tables e below (s₁.setTop (entryFrame m #[(.ref t), (.int (0 : Int32)), (.int (4 : Int32)), (.int key)] 8)) tg := fun tg k => pre9 tg (by
          show own_S p e below s₁ m 33 #[rv t, iv (0 : Int32), iv (4 : Int32), iv key, iv (3 : Int32), iv (3 : Int32), iv (3 : Int32), iv x3] [(.int key), (.int x3)] _
          refine XS.icmpYes X0.here hx rfl (pc0 := 33) (pc' := 45) rfl (hb hby d9_33) rfl (flt hc33_8).2.1 (by decide) (by decide) ?_
          refine XS.iload X0.here hx rfl (hb hby d9_45) rfl ?_
          refine XS.iloadN X0.here hx rfl (hb hby d9_47) rfl ?_
          exact k)
        by_cases hc48_11 : key < x3
        ·  -- pc 48 yes
          have pre13 : ∀ tg, own_S p e below s₁ m 71 #[rv t, iv (0 : Int32), iv (4 : Int32), iv key, iv (3 : Int32), iv (2 : Int32), iv (3 : Int32), iv x3] [(.int (-4 : Int32))] tg → Steps p.tables e below (s₁.setTop (entryFrame m #[(.ref t), (.int (0 : Int32)), (.int (4 : Int32)), (.int key)] 8)) tg := fun tg k => pre12 tg (by
            show own_S p e below s₁ m 48 #[rv t, iv (0 : Int32), iv (4 : Int32), iv key, iv (3 : Int32), iv (3 : Int32), iv (3 : Int32), iv x3] [(.int key), (.int x3)] _
            refine XS.icmpNo X0.here hx rfl (hb hby d9_48) rfl (tlt hc48_11).2.2.2 ?_
            refine XS.iload X0.here hx rfl (hb hby d9_51) rfl ?_
            refine XS.iconst X0.here hx rfl (hb hby d9_53) ?_
            show own_S p e below s₁ m 54 #[rv t, iv (0 : Int32), iv (4 : Int32), iv key, iv (3 : Int32), iv (3 : Int32), iv (3 : Int32), iv x3] [(.int (1 : Int32)), (.int (3 : Int32))] _
            refine XS.isub X0.here hx rfl (hb hby d9_54) rfl ?_
            refine XS.istore X0.here hx rfl (hb hby d9_55) rfl (l' := #[rv t, iv (0 : Int32), iv (4 : Int32), iv key, iv (3 : Int32), iv (2 : Int32), iv (3 : Int32), iv x3]) rfl ?_
            refine XS.goto X0.here hx rfl (pc0 := 57) (pc' := 63) rfl (hb hby d9_57) (by decide) (by decide) ?_
            show own_S p e below s₁ m 63 #[rv t, iv (0 : Int32), iv (4 : Int32), iv key, iv (3 : Int32), iv (2 : Int32), iv (3 : Int32), iv x3] [] _
            refine XS.goto X0.here hx rfl (pc0 := 63) (pc' := 8) rfl (hb hby d9_63) (by decide) (by decide) ?_
            refine XS.iload X0.here hx rfl (hb hby d9_8) rfl ?_
            refine XS.iload X0.here hx rfl (hb hby d9_10) rfl ?_
            show own_S p e below s₁ m 12 #[rv t, iv (0 : Int32), iv (4 : Int32), iv key, iv (3 : Int32), iv (2 : Int32), iv (3 : Int32), iv x3] [(.int (2 : Int32)), (.int (3 : Int32))] _
            refine XS.icmpYes X0.here hx rfl (pc0 := 12) (pc' := 66) rfl (hb hby d9_12) rfl (tlt (by decide : (2 : Int32) < (3 : Int32))).2.2.1 (by decide) (by decide) ?_
            refine XS.iload X0.here hx rfl (hb hby d9_66) rfl ?_
            refine XS.iconst X0.here hx rfl (hb hby d9_68) ?_
            show own_S p e below s₁ m 69 #[rv t, iv (0 : Int32), iv (4 : Int32), iv key, iv (3 : Int32), iv (2 : Int32), iv (3 : Int32), iv x3] [(.int (1 : Int32)), (.int (3 : Int32))] _
            refine XS.iadd X0.here hx rfl (hb hby d9_69) rfl ?_
            refine XS.ineg X0.here hx rfl (hb hby d9_70) rfl ?_
            exact k)
          obtain ⟨fs, hr, hrun, hended, hW, hsame⟩ := X0.leave (v := some (.int (-4 : Int32))) (fun h => by rw [Bd.returns] at h; cases h)
          refine ⟨_, _, pre13 _ ?_, hrun, hended, _, _, rfl, ?_, ⟨_, rfl⟩, hW, hsame.mono (by decide) (by decide)⟩
          · show own_S p e below s₁ m 71 #[rv t, iv (0 : Int32), iv (4 : Int32), iv key, iv (3 : Int32), iv (2 : Int32), iv (3 : Int32), iv x3] [(.int (-4 : Int32))] _
            exact retI X0 hx Bd.returns (hb hby d9_71) hr
          · show QB4 Z t key k x0 x1 x2 x3 h0 n0 _ s₁.heap _
            rw [e0]
            exact ⟨_, rfl, N0, rfl, (Or.inr (Or.inr (Or.inr (Or.inr (Or.inr (Or.inr (Or.inr (Or.inl ⟨rfl, hc33_5, hc48_11⟩))))))))⟩
        ·  -- pc 48 no
          have pre14 : ∀ tg, own_S p e below s₁ m 62 #[rv t, iv (0 : Int32), iv (4 : Int32), iv key, iv (3 : Int32), iv (3 : Int32), iv (3 : Int32), iv x3] [(.int (3 : Int32))] tg → Steps p.tables e below (s₁.setTop (entryFrame m #[(.ref t), (.int (0 : Int32)), (.int (4 : Int32)), (.int key)] 8)) tg := fun tg k => pre12 tg (by
            show own_S p e below s₁ m 48 #[rv t, iv (0 : Int32), iv (4 : Int32), iv key, iv (3 : Int32), iv (3 : Int32), iv (3 : Int32), iv x3] [(.int key), (.int x3)] _
            refine XS.icmpYes X0.here hx rfl (pc0 := 48) (pc' := 60) rfl (hb hby d9_48) rfl (flt hc48_11).2.2.2 (by decide) (by decide) ?_
            refine XS.iload X0.here hx rfl (hb hby d9_60) rfl ?_
            exact k)
          obtain ⟨fs, hr, hrun, hended, hW, hsame⟩ := X0.leave (v := some (.int (3 : Int32))) (fun h => by rw [Bd.returns] at h; cases h)
          refine ⟨_, _, pre14 _ ?_, hrun, hended, _, _, rfl, ?_, ⟨_, rfl⟩, hW, hsame.mono (by decide) (by decide)⟩
          · show own_S p e below s₁ m 62 #[rv t, iv (0 : Int32), iv (4 : Int32), iv key, iv (3 : Int32), iv (3 : Int32), iv (3 : Int32), iv x3] [(.int (3 : Int32))] _
            exact retI X0 hx Bd.returns (hb hby d9_62) hr
          · show QB4 Z t key k x0 x1 x2 x3 h0 n0 _ s₁.heap _
            rw [e0]
            exact ⟨_, rfl, N0, rfl, (Or.inr (Or.inr (Or.inr (Or.inl ⟨rfl, own_eq hc33_8 hc48_11⟩))))⟩
    ·  -- pc 33 no
      have pre16 : ∀ tg, own_S p e below s₁ m 48 #[rv t, iv (0 : Int32), iv (4 : Int32), iv key, iv (2 : Int32), iv (3 : Int32), iv (2 : Int32), iv x2] [(.int key), (.int x2)] tg → Steps p.tables e below (s₁.setTop (entryFrame m #[(.ref t), (.int (0 : Int32)), (.int (4 : Int32)), (.int key)] 8)) tg := fun tg k => pre6 tg (by
        show own_S p e below s₁ m 33 #[rv t, iv (0 : Int32), iv (4 : Int32), iv key, iv (2 : Int32), iv (3 : Int32), iv (2 : Int32), iv x2] [(.int key), (.int x2)] _
        refine XS.icmpYes X0.here hx rfl (pc0 := 33) (pc' := 45) rfl (hb hby d9_33) rfl (flt hc33_5).2.1 (by decide) (by decide) ?_
        refine XS.iload X0.here hx rfl (hb hby d9_45) rfl ?_
        refine XS.iloadN X0.here hx rfl (hb hby d9_47) rfl ?_
        exact k)
      by_cases hc48_15 : key < x2
      ·  -- pc 48 yes
        have pre17 : ∀ tg, own_S p e below s₁ m 71 #[rv t, iv (0 : Int32), iv (4 : Int32), iv key, iv (2 : Int32), iv (1 : Int32), iv (2 : Int32), iv x2] [(.int (-3 : Int32))] tg → Steps p.tables e below (s₁.setTop (entryFrame m #[(.ref t), (.int (0 : Int32)), (.int (4 : Int32)), (.int key)] 8)) tg := fun tg k => pre16 tg (by
          show own_S p e below s₁ m 48 #[rv t, iv (0 : Int32), iv (4 : Int32), iv key, iv (2 : Int32), iv (3 : Int32), iv (2 : Int32), iv x2] [(.int key), (.int x2)] _
          refine XS.icmpNo X0.here hx rfl (hb hby d9_48) rfl (tlt hc48_15).2.2.2 ?_
          refine XS.iload X0.here hx rfl (hb hby d9_51) rfl ?_
          refine XS.iconst X0.here hx rfl (hb hby d9_53) ?_
          show own_S p e below s₁ m 54 #[rv t, iv (0 : Int32), iv (4 : Int32), iv key, iv (2 : Int32), iv (3 : Int32), iv (2 : Int32), iv x2] [(.int (1 : Int32)), (.int (2 : Int32))] _
          refine XS.isub X0.here hx rfl (hb hby d9_54) rfl ?_
          refine XS.istore X0.here hx rfl (hb hby d9_55) rfl (l' := #[rv t, iv (0 : Int32), iv (4 : Int32), iv key, iv (2 : Int32), iv (1 : Int32), iv (2 : Int32), iv x2]) rfl ?_
          refine XS.goto X0.here hx rfl (pc0 := 57) (pc' := 63) rfl (hb hby d9_57) (by decide) (by decide) ?_
          show own_S p e below s₁ m 63 #[rv t, iv (0 : Int32), iv (4 : Int32), iv key, iv (2 : Int32), iv (1 : Int32), iv (2 : Int32), iv x2] [] _
          refine XS.goto X0.here hx rfl (pc0 := 63) (pc' := 8) rfl (hb hby d9_63) (by decide) (by decide) ?_
          refine XS.iload X0.here hx rfl (hb hby d9_8) rfl ?_
          refine XS.iload X0.here hx rfl (hb hby d9_10) rfl ?_
          show own_S p e below s₁ m 12 #[rv t, iv (0 : Int32), iv (4 : Int32), iv key, iv (2 : Int32), iv (1 : Int32), iv (2 : Int32), iv x2] [(.int (1 : Int32)), (.int (2 : Int32))] _
          refine XS.icmpYes X0.here hx rfl (pc0 := 12) (pc' := 66) rfl (hb hby d9_12) rfl (tlt (by decide : (1 : Int32) < (2 : Int32))).2.2.1 (by decide) (by decide) ?_
          refine XS.iload X0.here hx rfl (hb hby d9_66) rfl ?_
          refine XS.iconst X0.here hx rfl (hb hby d9_68) ?_
          show own_S p e below s₁ m 69 #[rv t, iv (0 : Int32), iv (4 : Int32), iv key, iv (2 : Int32), iv (1 : Int32), iv (2 : Int32), iv x2] [(.int (1 : Int32)), (.int (2 : Int32))] _
          refine XS.iadd X0.here hx rfl (hb hby d9_69) rfl ?_
          refine XS.ineg X0.here hx rfl (hb hby d9_70) rfl ?_
          exact k)
        obtain ⟨fs, hr, hrun, hended, hW, hsame⟩ := X0.leave (v := some (.int (-3 : Int32))) (fun h => by rw [Bd.returns] at h; cases h)
        refine ⟨_, _, pre17 _ ?_, hrun, hended, _, _, rfl, ?_, ⟨_, rfl⟩, hW, hsame.mono (by decide) (by decide)⟩
        · show own_S p e below s₁ m 71 #[rv t, iv (0 : Int32), iv (4 : Int32), iv key, iv (2 : Int32), iv (1 : Int32), iv (2 : Int32), iv x2] [(.int (-3 : Int32))] _
          exact retI X0 hx Bd.returns (hb hby d9_71) hr
        · show QB4 Z t key k x0 x1 x2 x3 h0 n0 _ s₁.heap _
          rw [e0]
          exact ⟨_, rfl, N0, rfl, (Or.inr (Or.inr (Or.inr (Or.inr (Or.inr (Or.inr (Or.inl ⟨rfl, hc33_2, hc48_15⟩)))))))⟩
      ·  -- pc 48 no
        have pre18 : ∀ tg, own_S p e below s₁ m 62 #[rv t, iv (0 : Int32), iv (4 : Int32), iv key, iv (2 : Int32), iv (3 : Int32), iv (2 : Int32), iv x2] [(.int (2 : Int32))] tg → Steps p.tables e below (s₁.setTop (entryFrame m #[(.ref t), (.int (0 : Int32)), (.int (4 : Int32)), (.int key)] 8)) tg := fun tg k => pre16 tg (by
          show own_S p e below s₁ m 48 #[rv t, iv (0 : Int32), iv (4 : Int32), iv key, iv (2 : Int32), iv (3 : Int32), iv (2 : Int32), iv x2] [(.int key), (.int x2)] _
          refine XS.icmpYes X0.here hx rfl (pc0 := 48) (pc' := 60) rfl (hb hby d9_48) rfl (flt hc48_15).2.2.2 (by decide) (by decide) ?_
          refine XS.iload X0.here hx rfl (hb hby d9_60) rfl ?_
          exact k)
        obtain ⟨fs, hr, hrun, hended, hW, hsame⟩ := X0.leave (v := some (.int (2 : Int32))) (fun h => by rw [Bd.returns] at h; cases h)
        refine ⟨_, _, pre18 _ ?_, hrun, hended, _, _, rfl, ?_, ⟨_, rfl⟩, hW, hsame.mono (by decide) (by decide)⟩
        · show own_S p e below s₁ m 62 #[rv t, iv (0 : Int32), iv (4 : Int32), iv key, iv (2 : Int32), iv (3 : Int32), iv (2 : Int32), iv x2] [(.int (2 : Int32))] _
          exact retI X0 hx Bd.returns (hb hby d9_62) hr
        · show QB4 Z t key k x0 x1 x2 x3 h0 n0 _ s₁.heap _
          rw [e0]
          exact ⟨_, rfl, N0, rfl, (Or.inr (Or.inr (Or.inl ⟨rfl, own_eq hc33_5 hc48_15⟩)))⟩
  ·  -- pc 33 no
    have pre20 : ∀ tg, own_S p e below s₁ m 48 #[rv t, iv (0 : Int32), iv (4 : Int32), iv key, iv (0 : Int32), iv (3 : Int32), iv (1 : Int32), iv x1] [(.int key), (.int x1)] tg → Steps p.tables e below (s₁.setTop (entryFrame m #[(.ref t), (.int (0 : Int32)), (.int (4 : Int32)), (.int key)] 8)) tg := fun tg k => pre3 tg (by
      show own_S p e below s₁ m 33 #[rv t, iv (0 : Int32), iv (4 : Int32), iv key, iv (0 : Int32), iv (3 : Int32), iv (1 : Int32), iv x1] [(.int key), (.int x1)] _
      refine XS.icmpYes X0.here hx rfl (pc0 := 33) (pc' := 45) rfl (hb hby d9_33) rfl (flt hc33_2).2.1 (by decide) (by decide) ?_
      refine XS.iload X0.here hx rfl (hb hby d9_45) rfl ?_
      refine XS.iloadN X0.here hx rfl (hb hby d9_47) rfl ?_
      exact k)
    by_cases hc48_19 : key < x1
    ·  -- pc 48 yes
      obtain ⟨cl21, Ar21, q21, S21, M21, H21, G21⟩ := id V_t
      have hin21 : ¬ ((0 : Int32) < 0 ∨ cl21.slots.size ≤ ((0 : Int32)).toNatClampNeg) := inb_of S21 ⟨by decide, by decide⟩
      have hat21 : cl21.slots[((0 : Int32)).toNatClampNeg]? = some (.int x0) := H21.at hin21 rfl
      have pre23 : ∀ tg, own_S p e below s₁ m 33 #[rv t, iv (0 : Int32), iv (4 : Int32), iv key, iv (0 : Int32), iv (0 : Int32), iv (0 : Int32), iv x0] [(.int key), (.int x0)] tg → Steps p.tables e below (s₁.setTop (entryFrame m #[(.ref t), (.int (0 : Int32)), (.int (4 : Int32)), (.int key)] 8)) tg := fun tg k => pre20 tg (by
        show own_S p e below s₁ m 48 #[rv t, iv (0 : Int32), iv (4 : Int32), iv key, iv (0 : Int32), iv (3 : Int32), iv (1 : Int32), iv x1] [(.int key), (.int x1)] _
        refine XS.icmpNo X0.here hx rfl (hb hby d9_48) rfl (tlt hc48_19).2.2.2 ?_
        refine XS.iload X0.here hx rfl (hb hby d9_51) rfl ?_
        refine XS.iconst X0.here hx rfl (hb hby d9_53) ?_
        show own_S p e below s₁ m 54 #[rv t, iv (0 : Int32), iv (4 : Int32), iv key, iv (0 : Int32), iv (3 : Int32), iv (1 : Int32), iv x1] [(.int (1 : Int32)), (.int (1 : Int32))] _
        refine XS.isub X0.here hx rfl (hb hby d9_54) rfl ?_
        refine XS.istore X0.here hx rfl (hb hby d9_55) rfl (l' := #[rv t, iv (0 : Int32), iv (4 : Int32), iv key, iv (0 : Int32), iv (0 : Int32), iv (1 : Int32), iv x1]) rfl ?_
        refine XS.goto X0.here hx rfl (pc0 := 57) (pc' := 63) rfl (hb hby d9_57) (by decide) (by decide) ?_
        show own_S p e below s₁ m 63 #[rv t, iv (0 : Int32), iv (4 : Int32), iv key, iv (0 : Int32), iv (0 : Int32), iv (1 : Int32), iv x1] [] _
        refine XS.goto X0.here hx rfl (pc0 := 63) (pc' := 8) rfl (hb hby d9_63) (by decide) (by decide) ?_
        refine XS.iload X0.here hx rfl (hb hby d9_8) rfl ?_
        refine XS.iload X0.here hx rfl (hb hby d9_10) rfl ?_
        show own_S p e below s₁ m 12 #[rv t, iv (0 : Int32), iv (4 : Int32), iv key, iv (0 : Int32), iv (0 : Int32), iv (1 : Int32), iv x1] [(.int (0 : Int32)), (.int (0 : Int32))] _
        refine XS.icmpNo X0.here hx rfl (hb hby d9_12) rfl (flt (by decide : ¬ ((0 : Int32) < (0 : Int32)))).2.2.1 ?_
        refine XS.iload X0.here hx rfl (hb hby d9_15) rfl ?_
        refine XS.iload X0.here hx rfl (hb hby d9_17) rfl ?_
        show own_S p e below s₁ m 19 #[rv t, iv (0 : Int32), iv (4 : Int32), iv key, iv (0 : Int32), iv (0 : Int32), iv (1 : Int32), iv x1] [(.int (0 : Int32)), (.int (0 : Int32))] _
        refine XS.iadd X0.here hx rfl (hb hby d9_19) rfl ?_
        refine XS.iconst X0.here hx rfl (hb hby d9_20) ?_
        refine XS.iushr X0.here hx rfl (hb hby d9_21) rfl ?_
        show own_S p e below s₁ m 22 #[rv t, iv (0 : Int32), iv (4 : Int32), iv key, iv (0 : Int32), iv (0 : Int32), iv (1 : Int32), iv x1] [(.int (0 : Int32))] _
        refine XS.istore X0.here hx rfl (hb hby d9_22) rfl (l' := #[rv t, iv (0 : Int32), iv (4 : Int32), iv key, iv (0 : Int32), iv (0 : Int32), iv (0 : Int32), iv x1]) rfl ?_
        refine XS.aloadN X0.here hx rfl (hb hby d9_24) rfl rfl ?_
        refine XS.iload X0.here hx rfl (hb hby d9_25) rfl ?_
        show own_S p e below s₁ m 27 #[rv t, iv (0 : Int32), iv (4 : Int32), iv key, iv (0 : Int32), iv (0 : Int32), iv (0 : Int32), iv x1] [(.int (0 : Int32)), (.ref t)] _
        refine X0.caload hx (j := (0 : Int32)) (v := (.int x0)) (by rw [e0]; exact Ar21.1) (State.isArrayOf_alike hZ.alike Ar21.2.1) Ar21.2.2 hin21 hat21 (g := (mkF m 27 #[rv t, iv (0 : Int32), iv (4 : Int32), iv key, iv (0 : Int32), iv (0 : Int32), iv (0 : Int32), iv x1] [(.int (0 : Int32)), (.ref t)])) rfl rfl (hb hby d9_27) _ ?_
        refine XS.istore X0.here hx rfl (hb hby d9_28) rfl (l' := #[rv t, iv (0 : Int32), iv (4 : Int32), iv key, iv (0 : Int32), iv (0 : Int32), iv (0 : Int32), iv x0]) rfl ?_
        refine XS.iload X0.here hx rfl (hb hby d9_30) rfl ?_
        show own_S p e below s₁ m 32 #[rv t, iv (0 : Int32), iv (4 : Int32), iv key, iv (0 : Int32), iv (0 : Int32), iv (0 : Int32), iv x0] [(.int x0)] _
        refine XS.iloadN X0.here hx rfl (hb hby d9_32) rfl ?_
        exact k)
      by_cases hc33_22 : x0 < key
      ·  -- pc 33 yes
        have pre24 : ∀ tg, own_S p e below s₁ m 71 #[rv t, iv (0 : Int32), iv (4 : Int32), iv key, iv (1 : Int32), iv (0 : Int32), iv (0 : Int32), iv x0] [(.int (-2 : Int32))] tg → Steps p.tables e below (s₁.setTop (entryFrame m #[(.ref t), (.int (0 : Int32)), (.int (4 : Int32)), (.int key)] 8)) tg := fun tg k => pre23 tg (by
          show own_S p e below s₁ m 33 #[rv t, iv (0 : Int32), iv (4 : Int32), iv key, iv (0 : Int32), iv (0 : Int32), iv (0 : Int32), iv x0] [(.int key), (.int x0)] _
          refine XS.icmpNo X0.here hx rfl (hb hby d9_33) rfl (tlt hc33_22).2.1 ?_
          refine XS.iload X0.here hx rfl (hb hby d9_36) rfl ?_
          refine XS.iconst X0.here hx rfl (hb hby d9_38) ?_
          show own_S p e below s₁ m 39 #[rv t, iv (0 : Int32), iv (4 : Int32), iv key, iv (0 : Int32), iv (0 : Int32), iv (0 : Int32), iv x0] [(.int (1 : Int32)), (.int (0 : Int32))] _
          refine XS.iadd X0.here hx rfl (hb hby d9_39) rfl ?_
          refine XS.istore X0.here hx rfl (hb hby d9_40) rfl (l' := #[rv t, iv (0 : Int32), iv (4 : Int32), iv key, iv (1 : Int32), iv (0 : Int32), iv (0 : Int32), iv x0]) rfl ?_
          refine XS.goto X0.here hx rfl (pc0 := 42) (pc' := 63) rfl (hb hby d9_42) (by decide) (by decide) ?_
          show own_S p e below s₁ m 63 #[rv t, iv (0 : Int32), iv (4 : Int32), iv key, iv (1 : Int32), iv (0 : Int32), iv (0 : Int32), iv x0] [] _
          refine XS.goto X0.here hx rfl (pc0 := 63) (pc' := 8) rfl (hb hby d9_63) (by decide) (by decide) ?_
          refine XS.iload X0.here hx rfl (hb hby d9_8) rfl ?_
          refine XS.iload X0.here hx rfl (hb hby d9_10) rfl ?_
          show own_S p e below s₁ m 12 #[rv t, iv (0 : Int32), iv (4 : Int32), iv key, iv (1 : Int32), iv (0 : Int32), iv (0 : Int32), iv x0] [(.int (0 : Int32)), (.int (1 : Int32))] _
          refine XS.icmpYes X0.here hx rfl (pc0 := 12) (pc' := 66) rfl (hb hby d9_12) rfl (tlt (by decide : (0 : Int32) < (1 : Int32))).2.2.1 (by decide) (by decide) ?_
          refine XS.iload X0.here hx rfl (hb hby d9_66) rfl ?_
          refine XS.iconst X0.here hx rfl (hb hby d9_68) ?_
          show own_S p e below s₁ m 69 #[rv t, iv (0 : Int32), iv (4 : Int32), iv key, iv (1 : Int32), iv (0 : Int32), iv (0 : Int32), iv x0] [(.int (1 : Int32)), (.int (1 : Int32))] _
          refine XS.iadd X0.here hx rfl (hb hby d9_69) rfl ?_
          refine XS.ineg X0.here hx rfl (hb hby d9_70) rfl ?_
          exact k)
        obtain ⟨fs, hr, hrun, hended, hW, hsame⟩ := X0.leave (v := some (.int (-2 : Int32))) (fun h => by rw [Bd.returns] at h; cases h)
        refine ⟨_, _, pre24 _ ?_, hrun, hended, _, _, rfl, ?_, ⟨_, rfl⟩, hW, hsame.mono (by decide) (by decide)⟩
        · show own_S p e below s₁ m 71 #[rv t, iv (0 : Int32), iv (4 : Int32), iv key, iv (1 : Int32), iv (0 : Int32), iv (0 : Int32), iv x0] [(.int (-2 : Int32))] _
          exact retI X0 hx Bd.returns (hb hby d9_71) hr
        · show QB4 Z t key k x0 x1 x2 x3 h0 n0 _ s₁.heap _
          rw [e0]
          exact ⟨_, rfl, N0, rfl, (Or.inr (Or.inr (Or.inr (Or.inr (Or.inr (Or.inl ⟨rfl, hc33_22, hc48_19⟩))))))⟩
      ·  -- pc 33 no
        have pre26 : ∀ tg, own_S p e below s₁ m 48 #[rv t, iv (0 : Int32), iv (4 : Int32), iv key, iv (0 : Int32), iv (0 : Int32), iv (0 : Int32), iv x0] [(.int key), (.int x0)] tg → Steps p.tables e below (s₁.setTop (entryFrame m #[(.ref t), (.int (0 : Int32)), (.int (4 : Int32)), (.int key)] 8)) tg := fun tg k => pre23 tg (by
          show own_S p e below s₁ m 33 #[rv t, iv (0 : Int32), iv (4 : Int32), iv key, iv (0 : Int32), iv (0 : Int32), iv (0 : Int32), iv x0] [(.int key), (.int x0)] _
          refine XS.icmpYes X0.here hx rfl (pc0 := 33) (pc' := 45) rfl (hb hby d9_33) rfl (flt hc33_22).2.1 (by decide) (by decide) ?_
          refine XS.iload X0.here hx rfl (hb hby d9_45) rfl ?_
          refine XS.iloadN X0.here hx rfl (hb hby d9_47) rfl ?_
          exact k)
        by_cases hc48_25 : key < x0
        ·  -- pc 48 yes
          have pre27 : ∀ tg, own_S p e below s₁ m 71 #[rv t, iv (0 : Int32), iv (4 : Int32), iv key, iv (0 : Int32), iv (-1 : Int32), iv (0 : Int32), iv x0] [(.int (-1 : Int32))] tg → Steps p.tables e below (s₁.setTop (entryFrame m #[(.ref t), (.int (0 : Int32)), (.int (4 : Int32)), (.int key)] 8)) tg := fun tg k => pre26 tg (by
            show own_S p e below s₁ m 48 #[rv t, iv (0 : Int32), iv (4 : Int32), iv key, iv (0 : Int32), iv (0 : Int32), iv (0 : Int32), iv x0] [(.int key), (.int x0)] _
            refine XS.icmpNo X0.here hx rfl (hb hby d9_48) rfl (tlt hc48_25).2.2.2 ?_
            refine XS.iload X0.here hx rfl (hb hby d9_51) rfl ?_
            refine XS.iconst X0.here hx rfl (hb hby d9_53) ?_
            show own_S p e below s₁ m 54 #[rv t, iv (0 : Int32), iv (4 : Int32), iv key, iv (0 : Int32), iv (0 : Int32), iv (0 : Int32), iv x0] [(.int (1 : Int32)), (.int (0 : Int32))] _
            refine XS.isub X0.here hx rfl (hb hby d9_54) rfl ?_
            refine XS.istore X0.here hx rfl (hb hby d9_55) rfl (l' := #[rv t, iv (0 : Int32), iv (4 : Int32), iv key, iv (0 : Int32), iv (-1 : Int32), iv (0 : Int32), iv x0]) rfl ?_
            refine XS.goto X0.here hx rfl (pc0 := 57) (pc' := 63) rfl (hb hby d9_57) (by decide) (by decide) ?_
            show own_S p e below s₁ m 63 #[rv t, iv (0 : Int32), iv (4 : Int32), iv key, iv (0 : Int32), iv (-1 : Int32), iv (0 : Int32), iv x0] [] _
            refine XS.goto X0.here hx rfl (pc0 := 63) (pc' := 8) rfl (hb hby d9_63) (by decide) (by decide) ?_
            refine XS.iload X0.here hx rfl (hb hby d9_8) rfl ?_
            refine XS.iload X0.here hx rfl (hb hby d9_10) rfl ?_
            show own_S p e below s₁ m 12 #[rv t, iv (0 : Int32), iv (4 : Int32), iv key, iv (0 : Int32), iv (-1 : Int32), iv (0 : Int32), iv x0] [(.int (-1 : Int32)), (.int (0 : Int32))] _
            refine XS.icmpYes X0.here hx rfl (pc0 := 12) (pc' := 66) rfl (hb hby d9_12) rfl (tlt (by decide : (-1 : Int32) < (0 : Int32))).2.2.1 (by decide) (by decide) ?_
            refine XS.iload X0.here hx rfl (hb hby d9_66) rfl ?_
            refine XS.iconst X0.here hx rfl (hb hby d9_68) ?_
            show own_S p e below s₁ m 69 #[rv t, iv (0 : Int32), iv (4 : Int32), iv key, iv (0 : Int32), iv (-1 : Int32), iv (0 : Int32), iv x0] [(.int (1 : Int32)), (.int (0 : Int32))] _
            refine XS.iadd X0.here hx rfl (hb hby d9_69) rfl ?_
            refine XS.ineg X0.here hx rfl (hb hby d9_70) rfl ?_
            exact k)
          obtain ⟨fs, hr, hrun, hended, hW, hsame⟩ := X0.leave (v := some (.int (-1 : Int32))) (fun h => by rw [Bd.returns] at h; cases h)
          refine ⟨_, _, pre27 _ ?_, hrun, hended, _, _, rfl, ?_, ⟨_, rfl⟩, hW, hsame.mono (by decide) (by decide)⟩
          · show own_S p e below s₁ m 71 #[rv t, iv (0 : Int32), iv (4 : Int32), iv key, iv (0 : Int32), iv (-1 : Int32), iv (0 : Int32), iv x0] [(.int (-1 : Int32))] _
            exact retI X0 hx Bd.returns (hb hby d9_71) hr
          · show QB4 Z t key k x0 x1 x2 x3 h0 n0 _ s₁.heap _
            rw [e0]
            exact ⟨_, rfl, N0, rfl, (Or.inr (Or.inr (Or.inr (Or.inr (Or.inl ⟨rfl, hc48_25⟩)))))⟩
        ·  -- pc 48 no
          have pre28 : ∀ tg, own_S p e below s₁ m 62 #[rv t, iv (0 : Int32), iv (4 : Int32), iv key, iv (0 : Int32), iv (0 : Int32), iv (0 : Int32), iv x0] [(.int (0 : Int32))] tg → Steps p.tables e below (s₁.setTop (entryFrame m #[(.ref t), (.int (0 : Int32)), (.int (4 : Int32)), (.int key)] 8)) tg := fun tg k => pre26 tg (by
            show own_S p e below s₁ m 48 #[rv t, iv (0 : Int32), iv (4 : Int32), iv key, iv (0 : Int32), iv (0 : Int32), iv (0 : Int32), iv x0] [(.int key), (.int x0)] _
            refine XS.icmpYes X0.here hx rfl (pc0 := 48) (pc' := 60) rfl (hb hby d9_48) rfl (flt hc48_25).2.2.2 (by decide) (by decide) ?_
            refine XS.iload X0.here hx rfl (hb hby d9_60) rfl ?_
            exact k)
          obtain ⟨fs, hr, hrun, hended, hW, hsame⟩ := X0.leave (v := some (.int (0 : Int32))) (fun h => by rw [Bd.returns] at h; cases h)
          refine ⟨_, _, pre28 _ ?_, hrun, hended, _, _, rfl, ?_, ⟨_, rfl⟩, hW, hsame.mono (by decide) (by decide)⟩
          · show own_S p e below s₁ m 62 #[rv t, iv (0 : Int32), iv (4 : Int32), iv key, iv (0 : Int32), iv (0 : Int32), iv (0 : Int32), iv x0] [(.int (0 : Int32))] _
            exact retI X0 hx Bd.returns (hb hby d9_62) hr
          · show QB4 Z t key k x0 x1 x2 x3 h0 n0 _ s₁.heap _
            rw [e0]
            exact ⟨_, rfl, N0, rfl, (Or.inl ⟨rfl, own_eq hc33_22 hc48_25⟩)⟩
    ·  -- pc 48 no
      have pre29 : ∀ tg, own_S p e below s₁ m 62 #[rv t, iv (0 : Int32), iv (4 : Int32), iv key, iv (0 : Int32), iv (3 : Int32), iv (1 : Int32), iv x1] [(.int (1 : Int32))] tg → Steps p.tables e below (s₁.setTop (entryFrame m #[(.ref t), (.int (0 : Int32)), (.int (4 : Int32)), (.int key)] 8)) tg := fun tg k => pre20 tg (by
        show own_S p e below s₁ m 48 #[rv t, iv (0 : Int32), iv (4 : Int32), iv key, iv (0 : Int32), iv (3 : Int32), iv (1 : Int32), iv x1] [(.int key), (.int x1)] _
        refine XS.icmpYes X0.here hx rfl (pc0 := 48) (pc' := 60) rfl (hb hby d9_48) rfl (flt hc48_19).2.2.2 (by decide) (by decide) ?_
        refine XS.iload X0.here hx rfl (hb hby d9_60) rfl ?_
        exact k)
      obtain ⟨fs, hr, hrun, hended, hW, hsame⟩ := X0.leave (v := some (.int (1 : Int32))) (fun h => by rw [Bd.returns] at h; cases h)
      refine ⟨_, _, pre29 _ ?_, hrun, hended, _, _, rfl, ?_, ⟨_, rfl⟩, hW, hsame.mono (by decide) (by decide)⟩
      · show own_S p e below s₁ m 62 #[rv t, iv (0 : Int32), iv (4 : Int32), iv key, iv (0 : Int32), iv (3 : Int32), iv (1 : Int32), iv x1] [(.int (1 : Int32))] _
        exact retI X0 hx Bd.returns (hb hby d9_62) hr
      · show QB4 Z t key k x0 x1 x2 x3 h0 n0 _ s₁.heap _
        rw [e0]
        exact ⟨_, rfl, N0, rfl, (Or.inr (Or.inl ⟨rfl, own_eq hc33_2 hc48_19⟩))⟩
theorem ef_S4 (m : MethodId) (t : Addr) (key : Int32) : entryFrame m #[(.ref t), (.int (0 : Int32)), (.int (4 : Int32)), (.int key)] 4 = mkF m 0 #[rv t, iv (0 : Int32), iv (4 : Int32), iv key] [] := by first | (simp [entryFrame, mkF, argsToLocals, Value.category]; done) | rfl
def QS4 (Z : State) (t : Addr) (key : Int32) (k : ClassId) (x0 : Int32) (x1 : Int32) (x2 : Int32) (x3 : Int32) (h0 : Heap) (n0 : Nat) (v : Option Value) (h : Heap) (L : List Loc) : Prop := ∃ r : Int32, v = some (.int r) ∧ Fr n0 L ∧ h = h0 ∧ ((r = 0 ∧ x0 = key) ∨ (r = 1 ∧ x1 = key) ∨ (r = 2 ∧ x2 = key) ∨ (r = 3 ∧ x3 = key) ∨ (r = -1 ∧ key < x0) ∨ (r = -2 ∧ x0 < key ∧ key < x1) ∨ (r = -3 ∧ x1 < key ∧ key < x2) ∨ (r = -4 ∧ x2 < key ∧ key < x3) ∨ (r = -5 ∧ x3 < key))
set_option maxRecDepth 65536 in
set_option maxHeartbeats 40000000 in
theorem rmS4 (l : Launch) (Z : State) (a0 : Array Value) (hw : ∀ d ∈ tables_1, d.before a0 Z = true) (ws : List Jvm.Cond) (t : Addr) (key : Int32) (k : ClassId) (x0 : Int32) (x1 : Int32) (x2 : Int32) (x3 : Int32) (h0 : Heap) (n0 : Nat) (Z0 : n0 ≤ h0.size) (V_t : Arv Z h0 t k .char (4 : Int32) [(.int x0), (.int x1), (.int x2), (.int x3)] (.int (0 : Int32))) :
    MetFree l (⟨"java/util/Arrays", "binarySearch", "([CIIC)I"⟩ : MethodName) (head1 (Jvm.Cond.code (⟨"java/util/Arrays", "binarySearch", "([CIIC)I"⟩ : MethodName) jdk_65_method_64_code 4 (some .int) :: ws) ({ frames := 1, cells := 0, slots := 0, locals := 24 } : Room)) (fun a U => a = #[(.ref t), (.int (0 : Int32)), (.int (4 : Int32)), (.int key)] ∧ Z.Warmed39 U.vm ∧ U.heap = h0) (fun _ _ _ _ _ => True) (fun _ U o U' => ∃ v L, o = .returned v ∧ QS4 Z t key k x0 x1 x2 x3 h0 n0 v U'.heap L ∧ FrameEnd U o U' L ({ frames := 1, cells := 0, slots := 0, locals := 24 } : Room).cells ({ frames := 1, cells := 0, slots := 0, locals := 24 } : Room).slots) := by
  refine MetFree.of_bodySF (plainFor_of_name pn_1) hisR ?_
  intro p e s m args below meth c s₁ Bd hml0 hP hK
  obtain ⟨rfl, hZ, hh⟩ := hP
  have hx := Bd.exec
  have hby := Bd.bytes
  have hml : c.maxLocals = 4 := hml0
  have hown : s.vm.findClass "java/util/Arrays" = some m.cls := findClass_of_methodNamed Bd.named
  have hnm := (name_of_methodNamed Bd.named Bd.method).1
  have X0 : Stand p l e ({ frames := 1, cells := 0, slots := 0, locals := 24 } : Room) s m #[(.ref t), (.int (0 : Int32)), (.int (4 : Int32)), (.int key)] below meth c s₁ [] 0 0 := Stand.of_body Bd
  have e0 : s₁.heap = h0 := by rw [← hh, Bd.state]; rfl
  have N0 := Fr.nil n0
  have pre0 : ∀ tg, Steps p.tables e below (s₁.setTop (mkF m 0 #[rv t, iv (0 : Int32), iv (4 : Int32), iv key] [])) tg → Steps p.tables e below (s₁.setTop (entryFrame m #[(.ref t), (.int (0 : Int32)), (.int (4 : Int32)), (.int key)] 4)) tg := fun tg k => castTop (ef_S4 m t key) k
  obtain ⟨cl1, Ar1, q1, S1, M1, -, -⟩ := id V_t
  obtain ⟨_, _, ⟨T2, L2, k2, n2⟩, -, X2, ⟨Lc2, hQ2, l2, y2, z2⟩, st2⟩ := Jvm.LawKit.callS X0 hx (y := (⟨"java/util/Arrays", "rangeCheck", "(III)V"⟩ : MethodName)) hown (mvT hZ (hw _ (List.mem_of_getElem? (i := 42) rfl))) (mvT hZ (hw _ (List.mem_of_getElem? (i := 43) rfl))) (mvT hZ (hw _ (List.mem_of_getElem? (i := 40) rfl))) (mvT hZ (hw _ (List.mem_of_getElem? (i := 44) rfl))) (by decide) (backOf (W := 0) (rmRC l Z a0 hw [] (4 : Int32) (0 : Int32) (4 : Int32) h0 n0 Z0 (by decide) (by decide) (by decide)) hZ (hw _ (List.mem_of_getElem? (i := 44) rfl)) (hw _ (List.mem_of_getElem? (i := 40) rfl)) (by decide) (by decide)) (g := (mkF m 4 #[rv t, iv (0 : Int32), iv (4 : Int32), iv key] [(.int (4 : Int32)), (.int (0 : Int32)), (.int (4 : Int32))])) rfl (by rw [hml]; rfl) (argsL := [(.int (4 : Int32)), (.int (0 : Int32)), (.int (4 : Int32))]) (rest := []) (lenOf pd_0 rfl) rfl (by show 2 * 0 + _ ≤ _; exact Nat.le_of_eq rfl) (hb hby d7_4) (fun _ _ => ⟨rfl, e0, (by decide : 0 + 0 ≤ _), (by decide : 0 + 0 ≤ _)⟩)
  dsimp only [Pt.U, Pt.locs, Pt.cells, Pt.slots] at X2 l2 y2 z2 st2 hQ2
  subst l2 y2 z2
  obtain ⟨rfl, N2q, e2q⟩ := hQ2
  have N2 := Fr.app N0 N2q
  have e2 : T2.heap = h0 := e2q
  obtain ⟨_, _, ⟨T3, L3, k3, n3⟩, -, X3, ⟨Lc3, hQ3, l3, y3, z3⟩, st3⟩ := Jvm.LawKit.callS X2 hx (y := (⟨"java/util/Arrays", "binarySearch0", "([CIIC)I"⟩ : MethodName)) hown (mvT hZ (hw _ (List.mem_of_getElem? (i := 45) rfl))) (mvT hZ (hw _ (List.mem_of_getElem? (i := 46) rfl))) (mvT hZ (hw _ (List.mem_of_getElem? (i := 40) rfl))) (mvT hZ (hw _ (List.mem_of_getElem? (i := 47) rfl))) (by decide) (backOf (W := 0) (rmB4 l Z a0 hw [] t key k x0 x1 x2 x3 h0 n0 Z0 V_t) hZ (hw _ (List.mem_of_getElem? (i := 47) rfl)) (hw _ (List.mem_of_getElem? (i := 40) rfl)) (by decide) (by decide)) (g := (mkF m 11 #[rv t, iv (0 : Int32), iv (4 : Int32), iv key] [(.int key), (.int (4 : Int32)), (.int (0 : Int32)), (.ref t)])) rfl (by rw [hml]; rfl) (argsL := [(.ref t), (.int (0 : Int32)), (.int (4 : Int32)), (.int key)]) (rest := []) (lenOf pd_1 rfl) rfl (by show 2 * 0 + _ ≤ _; exact Nat.le_of_eq rfl) (hb hby d7_11) (fun _ _ => ⟨rfl, e2, (by decide : 0 + 0 ≤ _), (by decide : 0 + 0 ≤ _)⟩)
  dsimp only [Pt.U, Pt.locs, Pt.cells, Pt.slots] at X3 l3 y3 z3 st3 hQ3
  subst l3 y3 z3
  obtain ⟨r3, rfl, N3q, e3q, hD3⟩ := hQ3
  have N3 := Fr.app N2 N3q
  have e3 : T3.heap = h0 := e3q
  have pre4 : ∀ tg, own_S p e below T3 m 14 #[rv t, iv (0 : Int32), iv (4 : Int32), iv key] [(.int r3)] tg → Steps p.tables e below (s₁.setTop (entryFrame m #[(.ref t), (.int (0 : Int32)), (.int (4 : Int32)), (.int key)] 4)) tg := fun tg k => pre0 tg (by
    show own_S p e below s₁ m 0 #[rv t, iv (0 : Int32), iv (4 : Int32), iv key] [] _
    refine XS.aloadN X0.here hx rfl (hb hby d7_0) rfl rfl ?_
    refine X0.arraylength hx (by rw [e0]; exact Ar1.1) (State.isArrayOf_alike hZ.alike Ar1.2.1) (g := (mkF m 1 #[rv t, iv (0 : Int32), iv (4 : Int32), iv key] [(.ref t)])) rfl rfl (hb hby d7_1) _ ?_
    rw [len_of S1 M1]
    refine XS.iloadN X0.here hx rfl (hb hby d7_2) rfl ?_
    show own_S p e below s₁ m 3 #[rv t, iv (0 : Int32), iv (4 : Int32), iv key] [(.int (0 : Int32)), (.int (4 : Int32))] _
    refine XS.iloadN X0.here hx rfl (hb hby d7_3) rfl ?_
    refine st2 _ ?_
    refine XS.aloadN X2.here hx rfl (hb hby d7_7) rfl rfl ?_
    show own_S p e below T2 m 8 #[rv t, iv (0 : Int32), iv (4 : Int32), iv key] [(.ref t)] _
    refine XS.iloadN X2.here hx rfl (hb hby d7_8) rfl ?_
    refine XS.iloadN X2.here hx rfl (hb hby d7_9) rfl ?_
    refine XS.iloadN X2.here hx rfl (hb hby d7_10) rfl ?_
    show own_S p e below T2 m 11 #[rv t, iv (0 : Int32), iv (4 : Int32), iv key] [(.int key), (.int (4 : Int32)), (.int (0 : Int32)), (.ref t)] _
    refine st3 _ ?_
    exact k)
  obtain ⟨fs, hr, hrun, hended, hW, hsame⟩ := X3.leave (v := some (.int r3)) (fun h => by rw [Bd.returns] at h; cases h)
  refine ⟨_, _, pre4 _ ?_, hrun, hended, _, _, rfl, ?_, ⟨_, rfl⟩, hW, hsame.mono (by decide) (by decide)⟩
  · show own_S p e below T3 m 14 #[rv t, iv (0 : Int32), iv (4 : Int32), iv key] [(.int r3)] _
    exact retI X3 hx Bd.returns (hb hby d7_14) hr
  · show QS4 Z t key k x0 x1 x2 x3 h0 n0 _ T3.heap _
    rw [e3]
    exact ⟨_, rfl, N3, rfl, hD3⟩
theorem ef_Add (m : MethodId) (a1 : Addr) (p2 : Int32) : entryFrame m #[(.ref a1), (.int p2)] 4 = mkF m 0 #[rv a1, iv p2, .unset, .unset] [] := by first | (simp [entryFrame, mkF, argsToLocals, Value.category]; done) | rfl
def QAdd (Z : State) (a1 : Addr) (p2 : Int32) (t : Addr) (k : ClassId) (xs : List Int32) (h0 : Heap) (n0 : Nat) (v : Option Value) (h : Heap) (L : List Loc) : Prop := ∃ (ys : List Int32) (u : Addr) (ku : ClassId), v = some (.ref a1) ∧ Fr n0 L ∧ Keep h0 h [a1, t] ∧ Exa Z h a1 "com/example/bitstrata/bitstrata/ArrayContainer" ∧ Fld Z h a1 "com/example/bitstrata/bitstrata/ArrayContainer" "values" "[C" (.ref u) ∧ Fld Z h a1 "com/example/bitstrata/bitstrata/ArrayContainer" "cardinality" "I" (.int (Int32.ofNat ys.length)) ∧ Arv Z h u ku .char (own_z ys) (own_vs ys) (.int 0) ∧ n0 ≤ u ∧ u ≠ a1 ∧ (u = t ∨ h0.size ≤ u) ∧ 1 ≤ ys.length ∧ ys.length ≤ xs.length + 1 ∧ own_srt ys ∧ own_chs ys ∧ ∀ x, x ∈ ys ↔ (x ∈ xs ∨ x = p2)
theorem d6_0 : decode prog_1_method_15_code 0 = .ok (.aload_n 0, 1) := by decide +kernel
theorem d6_1 : decode prog_1_method_15_code 1 = .ok (.getfield 9, 3) := by decide +kernel
theorem d6_4 : decode prog_1_method_15_code 4 = .ok (.iconst 0, 1) := by decide +kernel
theorem d6_5 : decode prog_1_method_15_code 5 = .ok (.aload_n 0, 1) := by decide +kernel
theorem d6_6 : decode prog_1_method_15_code 6 = .ok (.getfield 13, 3) := by decide +kernel
theorem d6_9 : decode prog_1_method_15_code 9 = .ok (.iload_n 1, 1) := by decide +kernel
theorem d6_10 : decode prog_1_method_15_code 10 = .ok (.invokestatic 51, 3) := by decide +kernel
theorem d6_13 : decode prog_1_method_15_code 13 = .ok (.istore_n 2, 1) := by decide +kernel
theorem d6_14 : decode prog_1_method_15_code 14 = .ok (.iload_n 2, 1) := by decide +kernel
theorem d6_15 : decode prog_1_method_15_code 15 = .ok (.ifCond .lt 5, 3) := by decide +kernel
theorem d6_18 : decode prog_1_method_15_code 18 = .ok (.aload_n 0, 1) := by decide +kernel
theorem d6_19 : decode prog_1_method_15_code 19 = .ok (.areturn, 1) := by decide +kernel
theorem d6_20 : decode prog_1_method_15_code 20 = .ok (.aload_n 0, 1) := by decide +kernel
theorem d6_21 : decode prog_1_method_15_code 21 = .ok (.getfield 13, 3) := by decide +kernel
theorem d6_24 : decode prog_1_method_15_code 24 = .ok (.sipush 4096, 3) := by decide +kernel
theorem d6_27 : decode prog_1_method_15_code 27 = .ok (.if_icmp .ne 15, 3) := by decide +kernel
theorem d6_42 : decode prog_1_method_15_code 42 = .ok (.iload_n 2, 1) := by decide +kernel
theorem d6_43 : decode prog_1_method_15_code 43 = .ok (.ineg, 1) := by decide +kernel
theorem d6_44 : decode prog_1_method_15_code 44 = .ok (.iconst 1, 1) := by decide +kernel
theorem d6_45 : decode prog_1_method_15_code 45 = .ok (.isub, 1) := by decide +kernel
theorem d6_46 : decode prog_1_method_15_code 46 = .ok (.istore_n 3, 1) := by decide +kernel
theorem d6_47 : decode prog_1_method_15_code 47 = .ok (.aload_n 0, 1) := by decide +kernel
theorem d6_48 : decode prog_1_method_15_code 48 = .ok (.getfield 13, 3) := by decide +kernel
theorem d6_51 : decode prog_1_method_15_code 51 = .ok (.aload_n 0, 1) := by decide +kernel
theorem d6_52 : decode prog_1_method_15_code 52 = .ok (.getfield 9, 3) := by decide +kernel
theorem d6_55 : decode prog_1_method_15_code 55 = .ok (.arraylength, 1) := by decide +kernel
theorem d6_56 : decode prog_1_method_15_code 56 = .ok (.if_icmp .ne 27, 3) := by decide +kernel
theorem d6_83 : decode prog_1_method_15_code 83 = .ok (.aload_n 0, 1) := by decide +kernel
theorem d6_84 : decode prog_1_method_15_code 84 = .ok (.getfield 9, 3) := by decide +kernel
theorem d6_87 : decode prog_1_method_15_code 87 = .ok (.iload_n 3, 1) := by decide +kernel
theorem d6_88 : decode prog_1_method_15_code 88 = .ok (.aload_n 0, 1) := by decide +kernel
theorem d6_89 : decode prog_1_method_15_code 89 = .ok (.getfield 9, 3) := by decide +kernel
theorem d6_92 : decode prog_1_method_15_code 92 = .ok (.iload_n 3, 1) := by decide +kernel
theorem d6_93 : decode prog_1_method_15_code 93 = .ok (.iconst 1, 1) := by decide +kernel
theorem d6_94 : decode prog_1_method_15_code 94 = .ok (.iadd, 1) := by decide +kernel
theorem d6_95 : decode prog_1_method_15_code 95 = .ok (.aload_n 0, 1) := by decide +kernel
theorem d6_96 : decode prog_1_method_15_code 96 = .ok (.getfield 13, 3) := by decide +kernel
theorem d6_99 : decode prog_1_method_15_code 99 = .ok (.iload_n 3, 1) := by decide +kernel
theorem d6_100 : decode prog_1_method_15_code 100 = .ok (.isub, 1) := by decide +kernel
theorem d6_101 : decode prog_1_method_15_code 101 = .ok (.invokestatic 80, 3) := by decide +kernel
theorem d6_104 : decode prog_1_method_15_code 104 = .ok (.aload_n 0, 1) := by decide +kernel
theorem d6_105 : decode prog_1_method_15_code 105 = .ok (.getfield 9, 3) := by decide +kernel
theorem d6_108 : decode prog_1_method_15_code 108 = .ok (.iload_n 3, 1) := by decide +kernel
theorem d6_109 : decode prog_1_method_15_code 109 = .ok (.iload_n 1, 1) := by decide +kernel
theorem d6_110 : decode prog_1_method_15_code 110 = .ok (.castore, 1) := by decide +kernel
theorem d6_111 : decode prog_1_method_15_code 111 = .ok (.aload_n 0, 1) := by decide +kernel
theorem d6_112 : decode prog_1_method_15_code 112 = .ok (.dup, 1) := by decide +kernel
theorem d6_113 : decode prog_1_method_15_code 113 = .ok (.getfield 13, 3) := by decide +kernel
theorem d6_116 : decode prog_1_method_15_code 116 = .ok (.iconst 1, 1) := by decide +kernel
theorem d6_117 : decode prog_1_method_15_code 117 = .ok (.iadd, 1) := by decide +kernel
theorem d6_118 : decode prog_1_method_15_code 118 = .ok (.putfield 13, 3) := by decide +kernel
theorem d6_121 : decode prog_1_method_15_code 121 = .ok (.aload_n 0, 1) := by decide +kernel
theorem d6_122 : decode prog_1_method_15_code 122 = .ok (.areturn, 1) := by decide +kernel
set_option maxRecDepth 65536 in
set_option maxHeartbeats 40000000 in
theorem rmAdd (l : Launch) (Z : State) (a0 : Array Value) (hw : ∀ d ∈ tables_1, d.before a0 Z = true) (ws : List Jvm.Cond) (a1 : Addr) (p2 : Int32) (t : Addr) (k : ClassId) (xs : List Int32) (h0 : Heap) (n0 : Nat) (Z0 : n0 ≤ h0.size) (E_a1 : Exa Z h0 a1 "com/example/bitstrata/bitstrata/ArrayContainer") (g_a1 : n0 ≤ a1) (g_t : n0 ≤ t) (F_v : Fld Z h0 a1 "com/example/bitstrata/bitstrata/ArrayContainer" "values" "[C" (.ref t)) (F_c : Fld Z h0 a1 "com/example/bitstrata/bitstrata/ArrayContainer" "cardinality" "I" (.int (Int32.ofNat xs.length))) (V_t : Arv Z h0 t k .char (own_z xs) (own_vs xs) (.int 0)) (hne : t ≠ a1) (hl1 : 1 ≤ xs.length) (hl2 : xs.length ≤ 3) (hs : own_srt xs) (hch : own_chs xs) (hk : nar .char p2 = p2) :
    MetFree l (⟨"com/example/bitstrata/bitstrata/ArrayContainer", "add", "(C)Lcom/example/bitstrata/bitstrata/Container;"⟩ : MethodName) (head1 (Jvm.Cond.code (⟨"com/example/bitstrata/bitstrata/ArrayContainer", "add", "(C)Lcom/example/bitstrata/bitstrata/Container;"⟩ : MethodName) prog_1_method_15_code 4 (some (.object "com/example/bitstrata/bitstrata/Container")) :: ws) ({ frames := 3, cells := 0, slots := 0, locals := 100 } : Room)) (fun a U => a = #[(.ref a1), (.int p2)] ∧ Z.Warmed39 U.vm ∧ U.heap = h0) (fun _ _ _ _ _ => True) (fun _ U o U' => ∃ v L, o = .returned v ∧ QAdd Z a1 p2 t k xs h0 n0 v U'.heap L ∧ FrameEnd U o U' L ({ frames := 3, cells := 0, slots := 0, locals := 100 } : Room).cells ({ frames := 3, cells := 0, slots := 0, locals := 100 } : Room).slots) := by
  refine MetFree.of_bodySF (plainFor_of_name pn_0) hisR ?_
  intro p e s m args below meth c s₁ Bd hml0 hP hK
  obtain ⟨rfl, hZ, hh⟩ := hP
  have hx := Bd.exec
  have hby := Bd.bytes
  have hml : c.maxLocals = 4 := hml0
  have hown : s.vm.findClass "com/example/bitstrata/bitstrata/ArrayContainer" = some m.cls := findClass_of_methodNamed Bd.named
  have hnm := (name_of_methodNamed Bd.named Bd.method).1
  have X0 : Stand p l e ({ frames := 3, cells := 0, slots := 0, locals := 100 } : Room) s m #[(.ref a1), (.int p2)] below meth c s₁ [] 0 0 := Stand.of_body Bd
  have e0 : s₁.heap = h0 := by rw [← hh, Bd.state]; rfl
  have N0 := Fr.nil n0
  have pre0 : ∀ tg, Steps p.tables e below (s₁.setTop (mkF m 0 #[rv a1, iv p2, .unset, .unset] [])) tg → Steps p.tables e below (s₁.setTop (entryFrame m #[(.ref a1), (.int p2)] 4)) tg := fun tg k => castTop (ef_Add m a1 p2) k
  have hlen : xs.length = 1 ∨ xs.length = 2 ∨ xs.length = 3 := by omega
  rcases hlen with hl | hl | hl
  ·  -- case
    obtain ⟨x0, rfl⟩ := own_len1 hl
    have F_c' : Fld Z h0 a1 "com/example/bitstrata/bitstrata/ArrayContainer" "cardinality" "I" (.int (1 : Int32)) := F_c
    have V_t' : Arv Z h0 t k .char (4 : Int32) [(.int x0), (.int (0 : Int32)), (.int (0 : Int32)), (.int (0 : Int32))] (.int (0 : Int32)) := V_t
    clear hs
    obtain ⟨T1, X1, e1, st1⟩ := getF X0 hx hZ hown (host := "") (Or.inl (hw _ (List.mem_of_getElem? (i := 10) rfl))) Via.refl e0 F_v (g := (mkF m 1 #[rv a1, iv p2, .unset, .unset] [(.ref a1)])) rfl rfl (hb hby d6_1)
    obtain ⟨T2, X2, e2, st2⟩ := getF X1 hx hZ hown (host := "") (Or.inl (hw _ (List.mem_of_getElem? (i := 12) rfl))) Via.refl e1 F_c' (g := (mkF m 6 #[rv a1, iv p2, .unset, .unset] [(.ref a1), (.int (0 : Int32)), (.ref t)])) rfl rfl (hb hby d6_6)
    obtain ⟨_, _, ⟨T3, L3, k3, n3⟩, -, X3, ⟨Lc3, hQ3, l3, y3, z3⟩, st3⟩ := Jvm.LawKit.callS X2 hx (y := (⟨"java/util/Arrays", "binarySearch", "([CIIC)I"⟩ : MethodName)) hown (mvT hZ (hw _ (List.mem_of_getElem? (i := 38) rfl))) (mvT hZ (hw _ (List.mem_of_getElem? (i := 39) rfl))) (mvT hZ (hw _ (List.mem_of_getElem? (i := 40) rfl))) (mvT hZ (hw _ (List.mem_of_getElem? (i := 41) rfl))) (by decide) (backOf (W := 0) (rmS1 l Z a0 hw [] t p2 k x0 h0 n0 Z0 V_t') hZ (hw _ (List.mem_of_getElem? (i := 41) rfl)) (hw _ (List.mem_of_getElem? (i := 40) rfl)) (by decide) (by decide)) (g := (mkF m 10 #[rv a1, iv p2, .unset, .unset] [(.int p2), (.int (1 : Int32)), (.int (0 : Int32)), (.ref t)])) rfl (by rw [hml]; rfl) (argsL := [(.ref t), (.int (0 : Int32)), (.int (1 : Int32)), (.int p2)]) (rest := []) (lenOf pd_1 rfl) rfl (by show 2 * 0 + _ ≤ _; exact Nat.le_of_eq rfl) (hb hby d6_10) (fun _ _ => ⟨rfl, e2, (by decide : 0 + 0 ≤ _), (by decide : 0 + 0 ≤ _)⟩)
    dsimp only [Pt.U, Pt.locs, Pt.cells, Pt.slots] at X3 l3 y3 z3 st3 hQ3
    subst l3 y3 z3
    obtain ⟨r3, rfl, N3q, e3q, hD3⟩ := hQ3
    have N3 := Fr.app N0 N3q
    have e3 : T3.heap = h0 := e3q
    have pre4 : ∀ tg, own_S p e below T3 m 13 #[rv a1, iv p2, .unset, .unset] [(.int r3)] tg → Steps p.tables e below (s₁.setTop (entryFrame m #[(.ref a1), (.int p2)] 4)) tg := fun tg k => pre0 tg (by
      show own_S p e below s₁ m 0 #[rv a1, iv p2, .unset, .unset] [] _
      refine XS.aloadN X0.here hx rfl (hb hby d6_0) rfl rfl ?_
      refine st1 _ ?_
      refine XS.iconst X1.here hx rfl (hb hby d6_4) ?_
      show own_S p e below T1 m 5 #[rv a1, iv p2, .unset, .unset] [(.int (0 : Int32)), (.ref t)] _
      refine XS.aloadN X1.here hx rfl (hb hby d6_5) rfl rfl ?_
      refine st2 _ ?_
      refine XS.iloadN X2.here hx rfl (hb hby d6_9) rfl ?_
      show own_S p e below T2 m 10 #[rv a1, iv p2, .unset, .unset] [(.int p2), (.int (1 : Int32)), (.int (0 : Int32)), (.ref t)] _
      refine st3 _ ?_
      exact k)
    rcases hD3 with ⟨rfl, q0⟩ | ⟨rfl, q0⟩ | ⟨rfl, q0⟩
    ·  -- case
      have pre5 : ∀ tg, own_S p e below T3 m 19 #[rv a1, iv p2, iv (0 : Int32), .unset] [(.ref a1)] tg → Steps p.tables e below (s₁.setTop (entryFrame m #[(.ref a1), (.int p2)] 4)) tg := fun tg k => pre4 tg (by
        show own_S p e below T3 m 13 #[rv a1, iv p2, .unset, .unset] [(.int (0 : Int32))] _
        refine XS.istoreN X3.here hx rfl (hb hby d6_13) rfl (l' := #[rv a1, iv p2, iv (0 : Int32), .unset]) rfl ?_
        refine XS.iloadN X3.here hx rfl (hb hby d6_14) rfl ?_
        refine XS.ifNo X3.here hx rfl (hb hby d6_15) rfl ((if0 _ _).trans (flt (by decide : ¬ ((0 : Int32) < (0 : Int32)))).1) ?_
        show own_S p e below T3 m 18 #[rv a1, iv p2, iv (0 : Int32), .unset] [] _
        refine XS.aloadN X3.here hx rfl (hb hby d6_18) rfl rfl ?_
        exact k)
      obtain ⟨fs, hr, hrun, hended, hW, hsame⟩ := X3.leave (v := some (.ref a1)) (fun h => by rw [Bd.returns] at h; cases h)
      refine ⟨_, _, pre5 _ ?_, hrun, hended, _, _, rfl, ?_, ⟨_, rfl⟩, hW, hsame.mono (by decide) (by decide)⟩
      · show own_S p e below T3 m 19 #[rv a1, iv p2, iv (0 : Int32), .unset] [(.ref a1)] _
        exact retOut X3 hx (t := (.object "com/example/bitstrata/bitstrata/Container")) Bd.returns rfl (Or.inr (Or.inr (Or.inr (Or.inr ⟨rfl, rfl, rfl⟩)))) (hb hby d6_19) hr
      · show QAdd Z a1 p2 t k [x0] h0 n0 _ T3.heap _
        rw [e3]
        refine ⟨[x0], t, _, rfl, N3, (Keep.refl h0 [a1, t]), E_a1, F_v, F_c', V_t', g_t, hne, Or.inl rfl, Nat.le_of_ble_eq_true rfl, Nat.le_of_ble_eq_true rfl, ?_, ?_, ?_⟩
        · exact trivial
        · exact hch
        · intro x; simp only [List.mem_cons, List.not_mem_nil, or_false]
          constructor
          · intro h; exact Or.inl h
          · intro h; rcases h with h | h
            · exact h
            · simp [h, ← q0]
    ·  -- case
      obtain ⟨T6, X6, e6, st6⟩ := getF X3 hx hZ hown (host := "") (Or.inl (hw _ (List.mem_of_getElem? (i := 12) rfl))) Via.refl e3 F_c' (g := (mkF m 21 #[rv a1, iv p2, iv (-1 : Int32), .unset] [(.ref a1)])) rfl rfl (hb hby d6_21)
      obtain ⟨T7, X7, e7, st7⟩ := getF X6 hx hZ hown (host := "") (Or.inl (hw _ (List.mem_of_getElem? (i := 12) rfl))) Via.refl e6 F_c' (g := (mkF m 48 #[rv a1, iv p2, iv (-1 : Int32), iv (0 : Int32)] [(.ref a1)])) rfl rfl (hb hby d6_48)
      obtain ⟨T8, X8, e8, st8⟩ := getF X7 hx hZ hown (host := "") (Or.inl (hw _ (List.mem_of_getElem? (i := 10) rfl))) Via.refl e7 F_v (g := (mkF m 52 #[rv a1, iv p2, iv (-1 : Int32), iv (0 : Int32)] [(.ref a1), (.int (1 : Int32))])) rfl rfl (hb hby d6_52)
      obtain ⟨cl9, Ar9, q9, S9, M9, -, -⟩ := id V_t'
      obtain ⟨T10, X10, e10, st10⟩ := getF X8 hx hZ hown (host := "") (Or.inl (hw _ (List.mem_of_getElem? (i := 10) rfl))) Via.refl e8 F_v (g := (mkF m 84 #[rv a1, iv p2, iv (-1 : Int32), iv (0 : Int32)] [(.ref a1)])) rfl rfl (hb hby d6_84)
      obtain ⟨T11, X11, e11, st11⟩ := getF X10 hx hZ hown (host := "") (Or.inl (hw _ (List.mem_of_getElem? (i := 10) rfl))) Via.refl e10 F_v (g := (mkF m 89 #[rv a1, iv p2, iv (-1 : Int32), iv (0 : Int32)] [(.ref a1), (.int (0 : Int32)), (.ref t)])) rfl rfl (hb hby d6_89)
      obtain ⟨T12, X12, e12, st12⟩ := getF X11 hx hZ hown (host := "") (Or.inl (hw _ (List.mem_of_getElem? (i := 12) rfl))) Via.refl e11 F_c' (g := (mkF m 96 #[rv a1, iv p2, iv (-1 : Int32), iv (0 : Int32)] [(.ref a1), (.int (1 : Int32)), (.ref t), (.int (0 : Int32)), (.ref t)])) rfl rfl (hb hby d6_96)
      obtain ⟨T13, h13, L13, X13, e13, N13, K13, Vc13, st13⟩ := cpA X12 hx hZ hown (hw _ (List.mem_of_getElem? (i := 48) rfl)) (hw _ (List.mem_of_getElem? (i := 51) rfl)) (hw _ (List.mem_of_getElem? (i := 49) rfl)) (hw _ (List.mem_of_getElem? (i := 50) rfl)) e12 (us := [(.int x0)]) (sp := (0 : Int32)) (dp := (1 : Int32)) (nn := (1 : Int32)) V_t' V_t' (Or.inl ⟨rfl, rfl⟩) (by decide) (by decide) (by decide) (by decide) (by decide) rfl (Nat.le_of_ble_eq_true rfl) N3 g_t (g := (mkF m 101 #[rv a1, iv p2, iv (-1 : Int32), iv (0 : Int32)] [(.int (1 : Int32)), (.int (1 : Int32)), (.ref t), (.int (0 : Int32)), (.ref t)])) rfl (by rw [hml]; rfl) rfl (hb hby d6_101) (by decide) (W := 0) (by show 2 * 0 + _ ≤ _; exact Nat.le_of_eq rfl) (by decide)
      have V13 : Arv Z h13 t k .char (4 : Int32) [(.int x0), (.int x0), (.int (0 : Int32)), (.int (0 : Int32))] (.int (0 : Int32)) := Vc13
      have Fn_14 := (F_v.keep K13 (ninS (Ne.symm hne) nin0))
      obtain ⟨T15, X15, e15, st15⟩ := getF X13 hx hZ hown (host := "") (Or.inl (hw _ (List.mem_of_getElem? (i := 10) rfl))) Via.refl e13 Fn_14 (g := (mkF m 105 #[rv a1, iv p2, iv (-1 : Int32), iv (0 : Int32)] [(.ref a1)])) rfl rfl (hb hby d6_105)
      obtain ⟨cl16, Ar16, q16, S16, M16, H16, G16⟩ := id V13
      have hin16 : ¬ ((0 : Int32) < 0 ∨ cl16.slots.size ≤ ((0 : Int32)).toNatClampNeg) := inb_of S16 ⟨by decide, by decide⟩
      obtain ⟨T16, h16, X16, e16, W16, st16⟩ := stC X15 hx hZ e15 Ar16 (j := (0 : Int32)) hin16 (g := (mkF m 110 #[rv a1, iv p2, iv (-1 : Int32), iv (0 : Int32)] [(.int p2), (.int (0 : Int32)), (.ref t)])) rfl rfl (hb hby d6_110)
      have V16 : Arv Z h16 t k .char (4 : Int32) [(.int (nar .char p2)), (.int x0), (.int (0 : Int32)), (.int (0 : Int32))] (.int (0 : Int32)) := Arv.set Ar16 q16 S16 M16 H16 G16 (fits_nar_char _) W16 0 rfl (Nat.le_of_ble_eq_true rfl)
      have N16 := Fr.snoc X16 N13 g_t
      have Fn_17 := ((F_c'.keep K13 (ninS (Ne.symm hne) nin0)).other W16 (Or.inl (Ne.symm hne)))
      obtain ⟨T18, X18, e18, st18⟩ := getF X16 hx hZ hown (host := "") (Or.inl (hw _ (List.mem_of_getElem? (i := 12) rfl))) Via.refl e16 Fn_17 (g := (mkF m 113 #[rv a1, iv p2, iv (-1 : Int32), iv (0 : Int32)] [(.ref a1), (.ref a1)])) rfl rfl (hb hby d6_113)
      have En_19 := ((E_a1.keep K13).wr W16)
      obtain ⟨T20, h20, X20, e20, W20, st20⟩ := putF X18 hx hZ hown (host := "") (Or.inl (hw _ (List.mem_of_getElem? (i := 12) rfl))) Via.refl e18 Fn_17 En_19 (Or.inl (hw _ (List.mem_of_getElem? (i := 13) rfl))) (hw _ (List.mem_of_getElem? (i := 1) rfl)) (ty := .int) (by decide) rfl rfl (g := (mkF m 118 #[rv a1, iv p2, iv (-1 : Int32), iv (0 : Int32)] [(.int (2 : Int32)), (.ref a1)])) rfl rfl (hb hby d6_118)
      have Fw20 := Fn_17.same W20
      have N20 := Fr.snoc X20 N16 g_a1
      have pre21 : ∀ tg, own_S p e below T20 m 122 #[rv a1, iv p2, iv (-1 : Int32), iv (0 : Int32)] [(.ref a1)] tg → Steps p.tables e below (s₁.setTop (entryFrame m #[(.ref a1), (.int p2)] 4)) tg := fun tg k => pre4 tg (by
        show own_S p e below T3 m 13 #[rv a1, iv p2, .unset, .unset] [(.int (-1 : Int32))] _
        refine XS.istoreN X3.here hx rfl (hb hby d6_13) rfl (l' := #[rv a1, iv p2, iv (-1 : Int32), .unset]) rfl ?_
        refine XS.iloadN X3.here hx rfl (hb hby d6_14) rfl ?_
        refine XS.ifYes X3.here hx rfl (pc0 := 15) (pc' := 20) rfl (hb hby d6_15) rfl ((if0 _ _).trans (tlt (by decide : (-1 : Int32) < (0 : Int32))).1) (by decide) (by decide) ?_
        show own_S p e below T3 m 20 #[rv a1, iv p2, iv (-1 : Int32), .unset] [] _
        refine XS.aloadN X3.here hx rfl (hb hby d6_20) rfl rfl ?_
        refine st6 _ ?_
        refine XS.sipush X6.here hx rfl (hb hby d6_24) ?_
        show own_S p e below T6 m 27 #[rv a1, iv p2, iv (-1 : Int32), .unset] [(.int (4096 : Int32)), (.int (1 : Int32))] _
        refine XS.icmpYes X6.here hx rfl (pc0 := 27) (pc' := 42) rfl (hb hby d6_27) rfl (feq (by decide : ¬ ((1 : Int32) = (4096 : Int32)))).2 (by decide) (by decide) ?_
        refine XS.iloadN X6.here hx rfl (hb hby d6_42) rfl ?_
        refine XS.ineg X6.here hx rfl (hb hby d6_43) rfl ?_
        show own_S p e below T6 m 44 #[rv a1, iv p2, iv (-1 : Int32), .unset] [(.int (1 : Int32))] _
        refine XS.iconst X6.here hx rfl (hb hby d6_44) ?_
        refine XS.isub X6.here hx rfl (hb hby d6_45) rfl ?_
        refine XS.istoreN X6.here hx rfl (hb hby d6_46) rfl (l' := #[rv a1, iv p2, iv (-1 : Int32), iv (0 : Int32)]) rfl ?_
        show own_S p e below T6 m 47 #[rv a1, iv p2, iv (-1 : Int32), iv (0 : Int32)] [] _
        refine XS.aloadN X6.here hx rfl (hb hby d6_47) rfl rfl ?_
        refine st7 _ ?_
        refine XS.aloadN X7.here hx rfl (hb hby d6_51) rfl rfl ?_
        show own_S p e below T7 m 52 #[rv a1, iv p2, iv (-1 : Int32), iv (0 : Int32)] [(.ref a1), (.int (1 : Int32))] _
        refine st8 _ ?_
        refine X8.arraylength hx (by rw [e8]; exact Ar9.1) (State.isArrayOf_alike hZ.alike Ar9.2.1) (g := (mkF m 55 #[rv a1, iv p2, iv (-1 : Int32), iv (0 : Int32)] [(.ref t), (.int (1 : Int32))])) rfl rfl (hb hby d6_55) _ ?_
        rw [len_of S9 M9]
        refine XS.icmpYes X8.here hx rfl (pc0 := 56) (pc' := 83) rfl (hb hby d6_56) rfl (feq (by decide : ¬ ((1 : Int32) = (4 : Int32)))).2 (by decide) (by decide) ?_
        show own_S p e below T8 m 83 #[rv a1, iv p2, iv (-1 : Int32), iv (0 : Int32)] [] _
        refine XS.aloadN X8.here hx rfl (hb hby d6_83) rfl rfl ?_
        refine st10 _ ?_
        refine XS.iloadN X10.here hx rfl (hb hby d6_87) rfl ?_
        show own_S p e below T10 m 88 #[rv a1, iv p2, iv (-1 : Int32), iv (0 : Int32)] [(.int (0 : Int32)), (.ref t)] _
        refine XS.aloadN X10.here hx rfl (hb hby d6_88) rfl rfl ?_
        refine st11 _ ?_
        refine XS.iloadN X11.here hx rfl (hb hby d6_92) rfl ?_
        show own_S p e below T11 m 93 #[rv a1, iv p2, iv (-1 : Int32), iv (0 : Int32)] [(.int (0 : Int32)), (.ref t), (.int (0 : Int32)), (.ref t)] _
        refine XS.iconst X11.here hx rfl (hb hby d6_93) ?_
        refine XS.iadd X11.here hx rfl (hb hby d6_94) rfl ?_
        refine XS.aloadN X11.here hx rfl (hb hby d6_95) rfl rfl ?_
        show own_S p e below T11 m 96 #[rv a1, iv p2, iv (-1 : Int32), iv (0 : Int32)] [(.ref a1), (.int (1 : Int32)), (.ref t), (.int (0 : Int32)), (.ref t)] _
        refine st12 _ ?_
        refine XS.iloadN X12.here hx rfl (hb hby d6_99) rfl ?_
        refine XS.isub X12.here hx rfl (hb hby d6_100) rfl ?_
        show own_S p e below T12 m 101 #[rv a1, iv p2, iv (-1 : Int32), iv (0 : Int32)] [(.int (1 : Int32)), (.int (1 : Int32)), (.ref t), (.int (0 : Int32)), (.ref t)] _
        refine st13 _ ?_
        refine XS.aloadN X13.here hx rfl (hb hby d6_104) rfl rfl ?_
        refine st15 _ ?_
        show own_S p e below T15 m 108 #[rv a1, iv p2, iv (-1 : Int32), iv (0 : Int32)] [(.ref t)] _
        refine XS.iloadN X15.here hx rfl (hb hby d6_108) rfl ?_
        refine XS.iloadN X15.here hx rfl (hb hby d6_109) rfl ?_
        refine st16 _ ?_
        show own_S p e below T16 m 111 #[rv a1, iv p2, iv (-1 : Int32), iv (0 : Int32)] [] _
        refine XS.aloadN X16.here hx rfl (hb hby d6_111) rfl rfl ?_
        refine XS.dup X16.here hx rfl (hb hby d6_112) rfl rfl ?_
        refine st18 _ ?_
        show own_S p e below T18 m 116 #[rv a1, iv p2, iv (-1 : Int32), iv (0 : Int32)] [(.int (1 : Int32)), (.ref a1)] _
        refine XS.iconst X18.here hx rfl (hb hby d6_116) ?_
        refine XS.iadd X18.here hx rfl (hb hby d6_117) rfl ?_
        refine st20 _ ?_
        show own_S p e below T20 m 121 #[rv a1, iv p2, iv (-1 : Int32), iv (0 : Int32)] [] _
        refine XS.aloadN X20.here hx rfl (hb hby d6_121) rfl rfl ?_
        exact k)
      obtain ⟨fs, hr, hrun, hended, hW, hsame⟩ := X20.leave (v := some (.ref a1)) (fun h => by rw [Bd.returns] at h; cases h)
      refine ⟨_, _, pre21 _ ?_, hrun, hended, _, _, rfl, ?_, ⟨_, rfl⟩, hW, hsame.mono (by decide) (by decide)⟩
      · show own_S p e below T20 m 122 #[rv a1, iv p2, iv (-1 : Int32), iv (0 : Int32)] [(.ref a1)] _
        exact retOut X20 hx (t := (.object "com/example/bitstrata/bitstrata/Container")) Bd.returns rfl (Or.inr (Or.inr (Or.inr (Or.inr ⟨rfl, rfl, rfl⟩)))) (hb hby d6_122) hr
      · show QAdd Z a1 p2 t k [x0] h0 n0 _ T20.heap _
        rw [e20]
        have En_22 := (En_19.wr W20)
        have Fn_23 := ((Fn_14.other W16 (Or.inl (Ne.symm hne))).other W20 (Or.inr (slot_ne (Or.inl (hw _ (List.mem_of_getElem? (i := 11) rfl))) (Or.inl (hw _ (List.mem_of_getElem? (i := 13) rfl))) (by decide) (t := (.array .char)) (t' := .int) (by decide) (by decide))))
        have Vn_24 := (V16.other W20 hne)
        rw [hk] at Vn_24
        refine ⟨[p2, x0], t, _, rfl, N20, ((((Keep.refl h0 [a1, t]).trans K13 (allS (Or.inl (List.mem_of_getElem? (i := 1) rfl)) all0)).wr W16 (Or.inl (List.mem_of_getElem? (i := 1) rfl))).wr W20 (Or.inl (List.mem_of_getElem? (i := 0) rfl))), En_22, Fn_23, Fw20, Vn_24, g_t, hne, Or.inl rfl, Nat.le_of_ble_eq_true rfl, Nat.le_of_ble_eq_true rfl, ?_, ?_, ?_⟩
        · exact ⟨(by first | assumption | exact own_tr (by assumption) (by assumption)), trivial⟩
        · intro x hx; simp only [List.mem_cons, List.not_mem_nil, or_false] at hx; rcases hx with rfl | rfl <;> first | exact hk | exact hch _ (by simp)
        · intro x; simp only [List.mem_cons, List.not_mem_nil, or_false]; try (constructor; (intro h; rcases h with h | h <;> simp [h]); (intro h; rcases h with h | h <;> simp [h]))
    ·  -- case
      obtain ⟨T25, X25, e25, st25⟩ := getF X3 hx hZ hown (host := "") (Or.inl (hw _ (List.mem_of_getElem? (i := 12) rfl))) Via.refl e3 F_c' (g := (mkF m 21 #[rv a1, iv p2, iv (-2 : Int32), .unset] [(.ref a1)])) rfl rfl (hb hby d6_21)
      obtain ⟨T26, X26, e26, st26⟩ := getF X25 hx hZ hown (host := "") (Or.inl (hw _ (List.mem_of_getElem? (i := 12) rfl))) Via.refl e25 F_c' (g := (mkF m 48 #[rv a1, iv p2, iv (-2 : Int32), iv (1 : Int32)] [(.ref a1)])) rfl rfl (hb hby d6_48)
      obtain ⟨T27, X27, e27, st27⟩ := getF X26 hx hZ hown (host := "") (Or.inl (hw _ (List.mem_of_getElem? (i := 10) rfl))) Via.refl e26 F_v (g := (mkF m 52 #[rv a1, iv p2, iv (-2 : Int32), iv (1 : Int32)] [(.ref a1), (.int (1 : Int32))])) rfl rfl (hb hby d6_52)
      obtain ⟨cl28, Ar28, q28, S28, M28, -, -⟩ := id V_t'
      obtain ⟨T29, X29, e29, st29⟩ := getF X27 hx hZ hown (host := "") (Or.inl (hw _ (List.mem_of_getElem? (i := 10) rfl))) Via.refl e27 F_v (g := (mkF m 84 #[rv a1, iv p2, iv (-2 : Int32), iv (1 : Int32)] [(.ref a1)])) rfl rfl (hb hby d6_84)
      obtain ⟨T30, X30, e30, st30⟩ := getF X29 hx hZ hown (host := "") (Or.inl (hw _ (List.mem_of_getElem? (i := 10) rfl))) Via.refl e29 F_v (g := (mkF m 89 #[rv a1, iv p2, iv (-2 : Int32), iv (1 : Int32)] [(.ref a1), (.int (1 : Int32)), (.ref t)])) rfl rfl (hb hby d6_89)
      obtain ⟨T31, X31, e31, st31⟩ := getF X30 hx hZ hown (host := "") (Or.inl (hw _ (List.mem_of_getElem? (i := 12) rfl))) Via.refl e30 F_c' (g := (mkF m 96 #[rv a1, iv p2, iv (-2 : Int32), iv (1 : Int32)] [(.ref a1), (.int (2 : Int32)), (.ref t), (.int (1 : Int32)), (.ref t)])) rfl rfl (hb hby d6_96)
      obtain ⟨T32, h32, L32, X32, e32, N32, K32, Vc32, st32⟩ := cpA X31 hx hZ hown (hw _ (List.mem_of_getElem? (i := 48) rfl)) (hw _ (List.mem_of_getElem? (i := 51) rfl)) (hw _ (List.mem_of_getElem? (i := 49) rfl)) (hw _ (List.mem_of_getElem? (i := 50) rfl)) e31 (us := []) (sp := (1 : Int32)) (dp := (2 : Int32)) (nn := (0 : Int32)) V_t' V_t' (Or.inl ⟨rfl, rfl⟩) (by decide) (by decide) (by decide) (by decide) (by decide) rfl (Nat.le_of_ble_eq_true rfl) N3 g_t (g := (mkF m 101 #[rv a1, iv p2, iv (-2 : Int32), iv (1 : Int32)] [(.int (0 : Int32)), (.int (2 : Int32)), (.ref t), (.int (1 : Int32)), (.ref t)])) rfl (by rw [hml]; rfl) rfl (hb hby d6_101) (by decide) (W := 0) (by show 2 * 0 + _ ≤ _; exact Nat.le_of_eq rfl) (by decide)
      have V32 : Arv Z h32 t k .char (4 : Int32) [(.int x0), (.int (0 : Int32)), (.int (0 : Int32)), (.int (0 : Int32))] (.int (0 : Int32)) := Vc32
      have Fn_33 := (F_v.keep K32 (ninS (Ne.symm hne) nin0))
      obtain ⟨T34, X34, e34, st34⟩ := getF X32 hx hZ hown (host := "") (Or.inl (hw _ (List.mem_of_getElem? (i := 10) rfl))) Via.refl e32 Fn_33 (g := (mkF m 105 #[rv a1, iv p2, iv (-2 : Int32), iv (1 : Int32)] [(.ref a1)])) rfl rfl (hb hby d6_105)
      obtain ⟨cl35, Ar35, q35, S35, M35, H35, G35⟩ := id V32
      have hin35 : ¬ ((1 : Int32) < 0 ∨ cl35.slots.size ≤ ((1 : Int32)).toNatClampNeg) := inb_of S35 ⟨by decide, by decide⟩
      obtain ⟨T35, h35, X35, e35, W35, st35⟩ := stC X34 hx hZ e34 Ar35 (j := (1 : Int32)) hin35 (g := (mkF m 110 #[rv a1, iv p2, iv (-2 : Int32), iv (1 : Int32)] [(.int p2), (.int (1 : Int32)), (.ref t)])) rfl rfl (hb hby d6_110)
      have V35 : Arv Z h35 t k .char (4 : Int32) [(.int x0), (.int (nar .char p2)), (.int (0 : Int32)), (.int (0 : Int32))] (.int (0 : Int32)) := Arv.set Ar35 q35 S35 M35 H35 G35 (fits_nar_char _) W35 1 rfl (Nat.le_of_ble_eq_true rfl)
      have N35 := Fr.snoc X35 N32 g_t
      have Fn_36 := ((F_c'.keep K32 (ninS (Ne.symm hne) nin0)).other W35 (Or.inl (Ne.symm hne)))
      obtain ⟨T37, X37, e37, st37⟩ := getF X35 hx hZ hown (host := "") (Or.inl (hw _ (List.mem_of_getElem? (i := 12) rfl))) Via.refl e35 Fn_36 (g := (mkF m 113 #[rv a1, iv p2, iv (-2 : Int32), iv (1 : Int32)] [(.ref a1), (.ref a1)])) rfl rfl (hb hby d6_113)
      have En_38 := ((E_a1.keep K32).wr W35)
      obtain ⟨T39, h39, X39, e39, W39, st39⟩ := putF X37 hx hZ hown (host := "") (Or.inl (hw _ (List.mem_of_getElem? (i := 12) rfl))) Via.refl e37 Fn_36 En_38 (Or.inl (hw _ (List.mem_of_getElem? (i := 13) rfl))) (hw _ (List.mem_of_getElem? (i := 1) rfl)) (ty := .int) (by decide) rfl rfl (g := (mkF m 118 #[rv a1, iv p2, iv (-2 : Int32), iv (1 : Int32)] [(.int (2 : Int32)), (.ref a1)])) rfl rfl (hb hby d6_118)
      have Fw39 := Fn_36.same W39
      have N39 := Fr.snoc X39 N35 g_a1
      have pre40 : ∀ tg, own_S p e below T39 m 122 #[rv a1, iv p2, iv (-2 : Int32), iv (1 : Int32)] [(.ref a1)] tg → Steps p.tables e below (s₁.setTop (entryFrame m #[(.ref a1), (.int p2)] 4)) tg := fun tg k => pre4 tg (by
        show own_S p e below T3 m 13 #[rv a1, iv p2, .unset, .unset] [(.int (-2 : Int32))] _
        refine XS.istoreN X3.here hx rfl (hb hby d6_13) rfl (l' := #[rv a1, iv p2, iv (-2 : Int32), .unset]) rfl ?_
        refine XS.iloadN X3.here hx rfl (hb hby d6_14) rfl ?_
        refine XS.ifYes X3.here hx rfl (pc0 := 15) (pc' := 20) rfl (hb hby d6_15) rfl ((if0 _ _).trans (tlt (by decide : (-2 : Int32) < (0 : Int32))).1) (by decide) (by decide) ?_
        show own_S p e below T3 m 20 #[rv a1, iv p2, iv (-2 : Int32), .unset] [] _
        refine XS.aloadN X3.here hx rfl (hb hby d6_20) rfl rfl ?_
        refine st25 _ ?_
        refine XS.sipush X25.here hx rfl (hb hby d6_24) ?_
        show own_S p e below T25 m 27 #[rv a1, iv p2, iv (-2 : Int32), .unset] [(.int (4096 : Int32)), (.int (1 : Int32))] _
        refine XS.icmpYes X25.here hx rfl (pc0 := 27) (pc' := 42) rfl (hb hby d6_27) rfl (feq (by decide : ¬ ((1 : Int32) = (4096 : Int32)))).2 (by decide) (by decide) ?_
        refine XS.iloadN X25.here hx rfl (hb hby d6_42) rfl ?_
        refine XS.ineg X25.here hx rfl (hb hby d6_43) rfl ?_
        show own_S p e below T25 m 44 #[rv a1, iv p2, iv (-2 : Int32), .unset] [(.int (2 : Int32))] _
        refine XS.iconst X25.here hx rfl (hb hby d6_44) ?_
        refine XS.isub X25.here hx rfl (hb hby d6_45) rfl ?_
        refine XS.istoreN X25.here hx rfl (hb hby d6_46) rfl (l' := #[rv a1, iv p2, iv (-2 : Int32), iv (1 : Int32)]) rfl ?_
        show own_S p e below T25 m 47 #[rv a1, iv p2, iv (-2 : Int32), iv (1 : Int32)] [] _
        refine XS.aloadN X25.here hx rfl (hb hby d6_47) rfl rfl ?_
        refine st26 _ ?_
        refine XS.aloadN X26.here hx rfl (hb hby d6_51) rfl rfl ?_
        show own_S p e below T26 m 52 #[rv a1, iv p2, iv (-2 : Int32), iv (1 : Int32)] [(.ref a1), (.int (1 : Int32))] _
        refine st27 _ ?_
        refine X27.arraylength hx (by rw [e27]; exact Ar28.1) (State.isArrayOf_alike hZ.alike Ar28.2.1) (g := (mkF m 55 #[rv a1, iv p2, iv (-2 : Int32), iv (1 : Int32)] [(.ref t), (.int (1 : Int32))])) rfl rfl (hb hby d6_55) _ ?_
        rw [len_of S28 M28]
        refine XS.icmpYes X27.here hx rfl (pc0 := 56) (pc' := 83) rfl (hb hby d6_56) rfl (feq (by decide : ¬ ((1 : Int32) = (4 : Int32)))).2 (by decide) (by decide) ?_
        show own_S p e below T27 m 83 #[rv a1, iv p2, iv (-2 : Int32), iv (1 : Int32)] [] _
        refine XS.aloadN X27.here hx rfl (hb hby d6_83) rfl rfl ?_
        refine st29 _ ?_
        refine XS.iloadN X29.here hx rfl (hb hby d6_87) rfl ?_
        show own_S p e below T29 m 88 #[rv a1, iv p2, iv (-2 : Int32), iv (1 : Int32)] [(.int (1 : Int32)), (.ref t)] _
        refine XS.aloadN X29.here hx rfl (hb hby d6_88) rfl rfl ?_
        refine st30 _ ?_
        refine XS.iloadN X30.here hx rfl (hb hby d6_92) rfl ?_
        show own_S p e below T30 m 93 #[rv a1, iv p2, iv (-2 : Int32), iv (1 : Int32)] [(.int (1 : Int32)), (.ref t), (.int (1 : Int32)), (.ref t)] _
        refine XS.iconst X30.here hx rfl (hb hby d6_93) ?_
        refine XS.iadd X30.here hx rfl (hb hby d6_94) rfl ?_
        refine XS.aloadN X30.here hx rfl (hb hby d6_95) rfl rfl ?_
        show own_S p e below T30 m 96 #[rv a1, iv p2, iv (-2 : Int32), iv (1 : Int32)] [(.ref a1), (.int (2 : Int32)), (.ref t), (.int (1 : Int32)), (.ref t)] _
        refine st31 _ ?_
        refine XS.iloadN X31.here hx rfl (hb hby d6_99) rfl ?_
        refine XS.isub X31.here hx rfl (hb hby d6_100) rfl ?_
        show own_S p e below T31 m 101 #[rv a1, iv p2, iv (-2 : Int32), iv (1 : Int32)] [(.int (0 : Int32)), (.int (2 : Int32)), (.ref t), (.int (1 : Int32)), (.ref t)] _
        refine st32 _ ?_
        refine XS.aloadN X32.here hx rfl (hb hby d6_104) rfl rfl ?_
        refine st34 _ ?_
        show own_S p e below T34 m 108 #[rv a1, iv p2, iv (-2 : Int32), iv (1 : Int32)] [(.ref t)] _
        refine XS.iloadN X34.here hx rfl (hb hby d6_108) rfl ?_
        refine XS.iloadN X34.here hx rfl (hb hby d6_109) rfl ?_
        refine st35 _ ?_
        show own_S p e below T35 m 111 #[rv a1, iv p2, iv (-2 : Int32), iv (1 : Int32)] [] _
        refine XS.aloadN X35.here hx rfl (hb hby d6_111) rfl rfl ?_
        refine XS.dup X35.here hx rfl (hb hby d6_112) rfl rfl ?_
        refine st37 _ ?_
        show own_S p e below T37 m 116 #[rv a1, iv p2, iv (-2 : Int32), iv (1 : Int32)] [(.int (1 : Int32)), (.ref a1)] _
        refine XS.iconst X37.here hx rfl (hb hby d6_116) ?_
        refine XS.iadd X37.here hx rfl (hb hby d6_117) rfl ?_
        refine st39 _ ?_
        show own_S p e below T39 m 121 #[rv a1, iv p2, iv (-2 : Int32), iv (1 : Int32)] [] _
        refine XS.aloadN X39.here hx rfl (hb hby d6_121) rfl rfl ?_
        exact k)
      obtain ⟨fs, hr, hrun, hended, hW, hsame⟩ := X39.leave (v := some (.ref a1)) (fun h => by rw [Bd.returns] at h; cases h)
      refine ⟨_, _, pre40 _ ?_, hrun, hended, _, _, rfl, ?_, ⟨_, rfl⟩, hW, hsame.mono (by decide) (by decide)⟩
      · show own_S p e below T39 m 122 #[rv a1, iv p2, iv (-2 : Int32), iv (1 : Int32)] [(.ref a1)] _
        exact retOut X39 hx (t := (.object "com/example/bitstrata/bitstrata/Container")) Bd.returns rfl (Or.inr (Or.inr (Or.inr (Or.inr ⟨rfl, rfl, rfl⟩)))) (hb hby d6_122) hr
      · show QAdd Z a1 p2 t k [x0] h0 n0 _ T39.heap _
        rw [e39]
        have En_41 := (En_38.wr W39)
        have Fn_42 := ((Fn_33.other W35 (Or.inl (Ne.symm hne))).other W39 (Or.inr (slot_ne (Or.inl (hw _ (List.mem_of_getElem? (i := 11) rfl))) (Or.inl (hw _ (List.mem_of_getElem? (i := 13) rfl))) (by decide) (t := (.array .char)) (t' := .int) (by decide) (by decide))))
        have Vn_43 := (V35.other W39 hne)
        rw [hk] at Vn_43
        refine ⟨[x0, p2], t, _, rfl, N39, ((((Keep.refl h0 [a1, t]).trans K32 (allS (Or.inl (List.mem_of_getElem? (i := 1) rfl)) all0)).wr W35 (Or.inl (List.mem_of_getElem? (i := 1) rfl))).wr W39 (Or.inl (List.mem_of_getElem? (i := 0) rfl))), En_41, Fn_42, Fw39, Vn_43, g_t, hne, Or.inl rfl, Nat.le_of_ble_eq_true rfl, Nat.le_of_ble_eq_true rfl, ?_, ?_, ?_⟩
        · exact ⟨(by first | assumption | exact own_tr (by assumption) (by assumption)), trivial⟩
        · intro x hx; simp only [List.mem_cons, List.not_mem_nil, or_false] at hx; rcases hx with rfl | rfl <;> first | exact hk | exact hch _ (by simp)
        · intro x; simp only [List.mem_cons, List.not_mem_nil, or_false]; try (constructor; (intro h; rcases h with h | h <;> simp [h]); (intro h; rcases h with h | h <;> simp [h]))
  ·  -- case
    obtain ⟨x0, x1, rfl⟩ := own_len2 hl
    have F_c' : Fld Z h0 a1 "com/example/bitstrata/bitstrata/ArrayContainer" "cardinality" "I" (.int (2 : Int32)) := F_c
    have V_t' : Arv Z h0 t k .char (4 : Int32) [(.int x0), (.int x1), (.int (0 : Int32)), (.int (0 : Int32))] (.int (0 : Int32)) := V_t
    have s01 : x0 < x1 := hs.1
    obtain ⟨T44, X44, e44, st44⟩ := getF X0 hx hZ hown (host := "") (Or.inl (hw _ (List.mem_of_getElem? (i := 10) rfl))) Via.refl e0 F_v (g := (mkF m 1 #[rv a1, iv p2, .unset, .unset] [(.ref a1)])) rfl rfl (hb hby d6_1)
    obtain ⟨T45, X45, e45, st45⟩ := getF X44 hx hZ hown (host := "") (Or.inl (hw _ (List.mem_of_getElem? (i := 12) rfl))) Via.refl e44 F_c' (g := (mkF m 6 #[rv a1, iv p2, .unset, .unset] [(.ref a1), (.int (0 : Int32)), (.ref t)])) rfl rfl (hb hby d6_6)
    obtain ⟨_, _, ⟨T46, L46, k46, n46⟩, -, X46, ⟨Lc46, hQ46, l46, y46, z46⟩, st46⟩ := Jvm.LawKit.callS X45 hx (y := (⟨"java/util/Arrays", "binarySearch", "([CIIC)I"⟩ : MethodName)) hown (mvT hZ (hw _ (List.mem_of_getElem? (i := 38) rfl))) (mvT hZ (hw _ (List.mem_of_getElem? (i := 39) rfl))) (mvT hZ (hw _ (List.mem_of_getElem? (i := 40) rfl))) (mvT hZ (hw _ (List.mem_of_getElem? (i := 41) rfl))) (by decide) (backOf (W := 0) (rmS2 l Z a0 hw [] t p2 k x0 x1 h0 n0 Z0 V_t') hZ (hw _ (List.mem_of_getElem? (i := 41) rfl)) (hw _ (List.mem_of_getElem? (i := 40) rfl)) (by decide) (by decide)) (g := (mkF m 10 #[rv a1, iv p2, .unset, .unset] [(.int p2), (.int (2 : Int32)), (.int (0 : Int32)), (.ref t)])) rfl (by rw [hml]; rfl) (argsL := [(.ref t), (.int (0 : Int32)), (.int (2 : Int32)), (.int p2)]) (rest := []) (lenOf pd_1 rfl) rfl (by show 2 * 0 + _ ≤ _; exact Nat.le_of_eq rfl) (hb hby d6_10) (fun _ _ => ⟨rfl, e45, (by decide : 0 + 0 ≤ _), (by decide : 0 + 0 ≤ _)⟩)
    dsimp only [Pt.U, Pt.locs, Pt.cells, Pt.slots] at X46 l46 y46 z46 st46 hQ46
    subst l46 y46 z46
    obtain ⟨r46, rfl, N46q, e46q, hD46⟩ := hQ46
    have N46 := Fr.app N0 N46q
    have e46 : T46.heap = h0 := e46q
    have pre47 : ∀ tg, own_S p e below T46 m 13 #[rv a1, iv p2, .unset, .unset] [(.int r46)] tg → Steps p.tables e below (s₁.setTop (entryFrame m #[(.ref a1), (.int p2)] 4)) tg := fun tg k => pre0 tg (by
      show own_S p e below s₁ m 0 #[rv a1, iv p2, .unset, .unset] [] _
      refine XS.aloadN X0.here hx rfl (hb hby d6_0) rfl rfl ?_
      refine st44 _ ?_
      refine XS.iconst X44.here hx rfl (hb hby d6_4) ?_
      show own_S p e below T44 m 5 #[rv a1, iv p2, .unset, .unset] [(.int (0 : Int32)), (.ref t)] _
      refine XS.aloadN X44.here hx rfl (hb hby d6_5) rfl rfl ?_
      refine st45 _ ?_
      refine XS.iloadN X45.here hx rfl (hb hby d6_9) rfl ?_
      show own_S p e below T45 m 10 #[rv a1, iv p2, .unset, .unset] [(.int p2), (.int (2 : Int32)), (.int (0 : Int32)), (.ref t)] _
      refine st46 _ ?_
      exact k)
    rcases hD46 with ⟨rfl, q0⟩ | ⟨rfl, q0⟩ | ⟨rfl, q0⟩ | ⟨rfl, q0, q1⟩ | ⟨rfl, q0⟩
    ·  -- case
      have pre48 : ∀ tg, own_S p e below T46 m 19 #[rv a1, iv p2, iv (0 : Int32), .unset] [(.ref a1)] tg → Steps p.tables e below (s₁.setTop (entryFrame m #[(.ref a1), (.int p2)] 4)) tg := fun tg k => pre47 tg (by
        show own_S p e below T46 m 13 #[rv a1, iv p2, .unset, .unset] [(.int (0 : Int32))] _
        refine XS.istoreN X46.here hx rfl (hb hby d6_13) rfl (l' := #[rv a1, iv p2, iv (0 : Int32), .unset]) rfl ?_
        refine XS.iloadN X46.here hx rfl (hb hby d6_14) rfl ?_
        refine XS.ifNo X46.here hx rfl (hb hby d6_15) rfl ((if0 _ _).trans (flt (by decide : ¬ ((0 : Int32) < (0 : Int32)))).1) ?_
        show own_S p e below T46 m 18 #[rv a1, iv p2, iv (0 : Int32), .unset] [] _
        refine XS.aloadN X46.here hx rfl (hb hby d6_18) rfl rfl ?_
        exact k)
      obtain ⟨fs, hr, hrun, hended, hW, hsame⟩ := X46.leave (v := some (.ref a1)) (fun h => by rw [Bd.returns] at h; cases h)
      refine ⟨_, _, pre48 _ ?_, hrun, hended, _, _, rfl, ?_, ⟨_, rfl⟩, hW, hsame.mono (by decide) (by decide)⟩
      · show own_S p e below T46 m 19 #[rv a1, iv p2, iv (0 : Int32), .unset] [(.ref a1)] _
        exact retOut X46 hx (t := (.object "com/example/bitstrata/bitstrata/Container")) Bd.returns rfl (Or.inr (Or.inr (Or.inr (Or.inr ⟨rfl, rfl, rfl⟩)))) (hb hby d6_19) hr
      · show QAdd Z a1 p2 t k [x0, x1] h0 n0 _ T46.heap _
        rw [e46]
        refine ⟨[x0, x1], t, _, rfl, N46, (Keep.refl h0 [a1, t]), E_a1, F_v, F_c', V_t', g_t, hne, Or.inl rfl, Nat.le_of_ble_eq_true rfl, Nat.le_of_ble_eq_true rfl, ?_, ?_, ?_⟩
        · exact ⟨(by first | assumption | exact own_tr (by assumption) (by assumption)), trivial⟩
        · exact hch
        · intro x; simp only [List.mem_cons, List.not_mem_nil, or_false]
          constructor
          · intro h; exact Or.inl h
          · intro h; rcases h with h | h
            · exact h
            · simp [h, ← q0]
    ·  -- case
      have pre49 : ∀ tg, own_S p e below T46 m 19 #[rv a1, iv p2, iv (1 : Int32), .unset] [(.ref a1)] tg → Steps p.tables e below (s₁.setTop (entryFrame m #[(.ref a1), (.int p2)] 4)) tg := fun tg k => pre47 tg (by
        show own_S p e below T46 m 13 #[rv a1, iv p2, .unset, .unset] [(.int (1 : Int32))] _
        refine XS.istoreN X46.here hx rfl (hb hby d6_13) rfl (l' := #[rv a1, iv p2, iv (1 : Int32), .unset]) rfl ?_
        refine XS.iloadN X46.here hx rfl (hb hby d6_14) rfl ?_
        refine XS.ifNo X46.here hx rfl (hb hby d6_15) rfl ((if0 _ _).trans (flt (by decide : ¬ ((1 : Int32) < (0 : Int32)))).1) ?_
        show own_S p e below T46 m 18 #[rv a1, iv p2, iv (1 : Int32), .unset] [] _
        refine XS.aloadN X46.here hx rfl (hb hby d6_18) rfl rfl ?_
        exact k)
      obtain ⟨fs, hr, hrun, hended, hW, hsame⟩ := X46.leave (v := some (.ref a1)) (fun h => by rw [Bd.returns] at h; cases h)
      refine ⟨_, _, pre49 _ ?_, hrun, hended, _, _, rfl, ?_, ⟨_, rfl⟩, hW, hsame.mono (by decide) (by decide)⟩
      · show own_S p e below T46 m 19 #[rv a1, iv p2, iv (1 : Int32), .unset] [(.ref a1)] _
        exact retOut X46 hx (t := (.object "com/example/bitstrata/bitstrata/Container")) Bd.returns rfl (Or.inr (Or.inr (Or.inr (Or.inr ⟨rfl, rfl, rfl⟩)))) (hb hby d6_19) hr
      · show QAdd Z a1 p2 t k [x0, x1] h0 n0 _ T46.heap _
        rw [e46]
        refine ⟨[x0, x1], t, _, rfl, N46, (Keep.refl h0 [a1, t]), E_a1, F_v, F_c', V_t', g_t, hne, Or.inl rfl, Nat.le_of_ble_eq_true rfl, Nat.le_of_ble_eq_true rfl, ?_, ?_, ?_⟩
        · exact ⟨(by first | assumption | exact own_tr (by assumption) (by assumption)), trivial⟩
        · exact hch
        · intro x; simp only [List.mem_cons, List.not_mem_nil, or_false]
          constructor
          · intro h; exact Or.inl h
          · intro h; rcases h with h | h
            · exact h
            · simp [h, ← q0]
    ·  -- case
      obtain ⟨T50, X50, e50, st50⟩ := getF X46 hx hZ hown (host := "") (Or.inl (hw _ (List.mem_of_getElem? (i := 12) rfl))) Via.refl e46 F_c' (g := (mkF m 21 #[rv a1, iv p2, iv (-1 : Int32), .unset] [(.ref a1)])) rfl rfl (hb hby d6_21)
      obtain ⟨T51, X51, e51, st51⟩ := getF X50 hx hZ hown (host := "") (Or.inl (hw _ (List.mem_of_getElem? (i := 12) rfl))) Via.refl e50 F_c' (g := (mkF m 48 #[rv a1, iv p2, iv (-1 : Int32), iv (0 : Int32)] [(.ref a1)])) rfl rfl (hb hby d6_48)
      obtain ⟨T52, X52, e52, st52⟩ := getF X51 hx hZ hown (host := "") (Or.inl (hw _ (List.mem_of_getElem? (i := 10) rfl))) Via.refl e51 F_v (g := (mkF m 52 #[rv a1, iv p2, iv (-1 : Int32), iv (0 : Int32)] [(.ref a1), (.int (2 : Int32))])) rfl rfl (hb hby d6_52)
      obtain ⟨cl53, Ar53, q53, S53, M53, -, -⟩ := id V_t'
      obtain ⟨T54, X54, e54, st54⟩ := getF X52 hx hZ hown (host := "") (Or.inl (hw _ (List.mem_of_getElem? (i := 10) rfl))) Via.refl e52 F_v (g := (mkF m 84 #[rv a1, iv p2, iv (-1 : Int32), iv (0 : Int32)] [(.ref a1)])) rfl rfl (hb hby d6_84)
      obtain ⟨T55, X55, e55, st55⟩ := getF X54 hx hZ hown (host := "") (Or.inl (hw _ (List.mem_of_getElem? (i := 10) rfl))) Via.refl e54 F_v (g := (mkF m 89 #[rv a1, iv p2, iv (-1 : Int32), iv (0 : Int32)] [(.ref a1), (.int (0 : Int32)), (.ref t)])) rfl rfl (hb hby d6_89)
      obtain ⟨T56, X56, e56, st56⟩ := getF X55 hx hZ hown (host := "") (Or.inl (hw _ (List.mem_of_getElem? (i := 12) rfl))) Via.refl e55 F_c' (g := (mkF m 96 #[rv a1, iv p2, iv (-1 : Int32), iv (0 : Int32)] [(.ref a1), (.int (1 : Int32)), (.ref t), (.int (0 : Int32)), (.ref t)])) rfl rfl (hb hby d6_96)
      obtain ⟨T57, h57, L57, X57, e57, N57, K57, Vc57, st57⟩ := cpA X56 hx hZ hown (hw _ (List.mem_of_getElem? (i := 48) rfl)) (hw _ (List.mem_of_getElem? (i := 51) rfl)) (hw _ (List.mem_of_getElem? (i := 49) rfl)) (hw _ (List.mem_of_getElem? (i := 50) rfl)) e56 (us := [(.int x0), (.int x1)]) (sp := (0 : Int32)) (dp := (1 : Int32)) (nn := (2 : Int32)) V_t' V_t' (Or.inl ⟨rfl, rfl⟩) (by decide) (by decide) (by decide) (by decide) (by decide) rfl (Nat.le_of_ble_eq_true rfl) N46 g_t (g := (mkF m 101 #[rv a1, iv p2, iv (-1 : Int32), iv (0 : Int32)] [(.int (2 : Int32)), (.int (1 : Int32)), (.ref t), (.int (0 : Int32)), (.ref t)])) rfl (by rw [hml]; rfl) rfl (hb hby d6_101) (by decide) (W := 0) (by show 2 * 0 + _ ≤ _; exact Nat.le_of_eq rfl) (by decide)
      have V57 : Arv Z h57 t k .char (4 : Int32) [(.int x0), (.int x0), (.int x1), (.int (0 : Int32))] (.int (0 : Int32)) := Vc57
      have Fn_58 := (F_v.keep K57 (ninS (Ne.symm hne) nin0))
      obtain ⟨T59, X59, e59, st59⟩ := getF X57 hx hZ hown (host := "") (Or.inl (hw _ (List.mem_of_getElem? (i := 10) rfl))) Via.refl e57 Fn_58 (g := (mkF m 105 #[rv a1, iv p2, iv (-1 : Int32), iv (0 : Int32)] [(.ref a1)])) rfl rfl (hb hby d6_105)
      obtain ⟨cl60, Ar60, q60, S60, M60, H60, G60⟩ := id V57
      have hin60 : ¬ ((0 : Int32) < 0 ∨ cl60.slots.size ≤ ((0 : Int32)).toNatClampNeg) := inb_of S60 ⟨by decide, by decide⟩
      obtain ⟨T60, h60, X60, e60, W60, st60⟩ := stC X59 hx hZ e59 Ar60 (j := (0 : Int32)) hin60 (g := (mkF m 110 #[rv a1, iv p2, iv (-1 : Int32), iv (0 : Int32)] [(.int p2), (.int (0 : Int32)), (.ref t)])) rfl rfl (hb hby d6_110)
      have V60 : Arv Z h60 t k .char (4 : Int32) [(.int (nar .char p2)), (.int x0), (.int x1), (.int (0 : Int32))] (.int (0 : Int32)) := Arv.set Ar60 q60 S60 M60 H60 G60 (fits_nar_char _) W60 0 rfl (Nat.le_of_ble_eq_true rfl)
      have N60 := Fr.snoc X60 N57 g_t
      have Fn_61 := ((F_c'.keep K57 (ninS (Ne.symm hne) nin0)).other W60 (Or.inl (Ne.symm hne)))
      obtain ⟨T62, X62, e62, st62⟩ := getF X60 hx hZ hown (host := "") (Or.inl (hw _ (List.mem_of_getElem? (i := 12) rfl))) Via.refl e60 Fn_61 (g := (mkF m 113 #[rv a1, iv p2, iv (-1 : Int32), iv (0 : Int32)] [(.ref a1), (.ref a1)])) rfl rfl (hb hby d6_113)
      have En_63 := ((E_a1.keep K57).wr W60)
      obtain ⟨T64, h64, X64, e64, W64, st64⟩ := putF X62 hx hZ hown (host := "") (Or.inl (hw _ (List.mem_of_getElem? (i := 12) rfl))) Via.refl e62 Fn_61 En_63 (Or.inl (hw _ (List.mem_of_getElem? (i := 13) rfl))) (hw _ (List.mem_of_getElem? (i := 1) rfl)) (ty := .int) (by decide) rfl rfl (g := (mkF m 118 #[rv a1, iv p2, iv (-1 : Int32), iv (0 : Int32)] [(.int (3 : Int32)), (.ref a1)])) rfl rfl (hb hby d6_118)
      have Fw64 := Fn_61.same W64
      have N64 := Fr.snoc X64 N60 g_a1
      have pre65 : ∀ tg, own_S p e below T64 m 122 #[rv a1, iv p2, iv (-1 : Int32), iv (0 : Int32)] [(.ref a1)] tg → Steps p.tables e below (s₁.setTop (entryFrame m #[(.ref a1), (.int p2)] 4)) tg := fun tg k => pre47 tg (by
        show own_S p e below T46 m 13 #[rv a1, iv p2, .unset, .unset] [(.int (-1 : Int32))] _
        refine XS.istoreN X46.here hx rfl (hb hby d6_13) rfl (l' := #[rv a1, iv p2, iv (-1 : Int32), .unset]) rfl ?_
        refine XS.iloadN X46.here hx rfl (hb hby d6_14) rfl ?_
        refine XS.ifYes X46.here hx rfl (pc0 := 15) (pc' := 20) rfl (hb hby d6_15) rfl ((if0 _ _).trans (tlt (by decide : (-1 : Int32) < (0 : Int32))).1) (by decide) (by decide) ?_
        show own_S p e below T46 m 20 #[rv a1, iv p2, iv (-1 : Int32), .unset] [] _
        refine XS.aloadN X46.here hx rfl (hb hby d6_20) rfl rfl ?_
        refine st50 _ ?_
        refine XS.sipush X50.here hx rfl (hb hby d6_24) ?_
        show own_S p e below T50 m 27 #[rv a1, iv p2, iv (-1 : Int32), .unset] [(.int (4096 : Int32)), (.int (2 : Int32))] _
        refine XS.icmpYes X50.here hx rfl (pc0 := 27) (pc' := 42) rfl (hb hby d6_27) rfl (feq (by decide : ¬ ((2 : Int32) = (4096 : Int32)))).2 (by decide) (by decide) ?_
        refine XS.iloadN X50.here hx rfl (hb hby d6_42) rfl ?_
        refine XS.ineg X50.here hx rfl (hb hby d6_43) rfl ?_
        show own_S p e below T50 m 44 #[rv a1, iv p2, iv (-1 : Int32), .unset] [(.int (1 : Int32))] _
        refine XS.iconst X50.here hx rfl (hb hby d6_44) ?_
        refine XS.isub X50.here hx rfl (hb hby d6_45) rfl ?_
        refine XS.istoreN X50.here hx rfl (hb hby d6_46) rfl (l' := #[rv a1, iv p2, iv (-1 : Int32), iv (0 : Int32)]) rfl ?_
        show own_S p e below T50 m 47 #[rv a1, iv p2, iv (-1 : Int32), iv (0 : Int32)] [] _
        refine XS.aloadN X50.here hx rfl (hb hby d6_47) rfl rfl ?_
        refine st51 _ ?_
        refine XS.aloadN X51.here hx rfl (hb hby d6_51) rfl rfl ?_
        show own_S p e below T51 m 52 #[rv a1, iv p2, iv (-1 : Int32), iv (0 : Int32)] [(.ref a1), (.int (2 : Int32))] _
        refine st52 _ ?_
        refine X52.arraylength hx (by rw [e52]; exact Ar53.1) (State.isArrayOf_alike hZ.alike Ar53.2.1) (g := (mkF m 55 #[rv a1, iv p2, iv (-1 : Int32), iv (0 : Int32)] [(.ref t), (.int (2 : Int32))])) rfl rfl (hb hby d6_55) _ ?_
        rw [len_of S53 M53]
        refine XS.icmpYes X52.here hx rfl (pc0 := 56) (pc' := 83) rfl (hb hby d6_56) rfl (feq (by decide : ¬ ((2 : Int32) = (4 : Int32)))).2 (by decide) (by decide) ?_
        show own_S p e below T52 m 83 #[rv a1, iv p2, iv (-1 : Int32), iv (0 : Int32)] [] _
        refine XS.aloadN X52.here hx rfl (hb hby d6_83) rfl rfl ?_
        refine st54 _ ?_
        refine XS.iloadN X54.here hx rfl (hb hby d6_87) rfl ?_
        show own_S p e below T54 m 88 #[rv a1, iv p2, iv (-1 : Int32), iv (0 : Int32)] [(.int (0 : Int32)), (.ref t)] _
        refine XS.aloadN X54.here hx rfl (hb hby d6_88) rfl rfl ?_
        refine st55 _ ?_
        refine XS.iloadN X55.here hx rfl (hb hby d6_92) rfl ?_
        show own_S p e below T55 m 93 #[rv a1, iv p2, iv (-1 : Int32), iv (0 : Int32)] [(.int (0 : Int32)), (.ref t), (.int (0 : Int32)), (.ref t)] _
        refine XS.iconst X55.here hx rfl (hb hby d6_93) ?_
        refine XS.iadd X55.here hx rfl (hb hby d6_94) rfl ?_
        refine XS.aloadN X55.here hx rfl (hb hby d6_95) rfl rfl ?_
        show own_S p e below T55 m 96 #[rv a1, iv p2, iv (-1 : Int32), iv (0 : Int32)] [(.ref a1), (.int (1 : Int32)), (.ref t), (.int (0 : Int32)), (.ref t)] _
        refine st56 _ ?_
        refine XS.iloadN X56.here hx rfl (hb hby d6_99) rfl ?_
        refine XS.isub X56.here hx rfl (hb hby d6_100) rfl ?_
        show own_S p e below T56 m 101 #[rv a1, iv p2, iv (-1 : Int32), iv (0 : Int32)] [(.int (2 : Int32)), (.int (1 : Int32)), (.ref t), (.int (0 : Int32)), (.ref t)] _
        refine st57 _ ?_
        refine XS.aloadN X57.here hx rfl (hb hby d6_104) rfl rfl ?_
        refine st59 _ ?_
        show own_S p e below T59 m 108 #[rv a1, iv p2, iv (-1 : Int32), iv (0 : Int32)] [(.ref t)] _
        refine XS.iloadN X59.here hx rfl (hb hby d6_108) rfl ?_
        refine XS.iloadN X59.here hx rfl (hb hby d6_109) rfl ?_
        refine st60 _ ?_
        show own_S p e below T60 m 111 #[rv a1, iv p2, iv (-1 : Int32), iv (0 : Int32)] [] _
        refine XS.aloadN X60.here hx rfl (hb hby d6_111) rfl rfl ?_
        refine XS.dup X60.here hx rfl (hb hby d6_112) rfl rfl ?_
        refine st62 _ ?_
        show own_S p e below T62 m 116 #[rv a1, iv p2, iv (-1 : Int32), iv (0 : Int32)] [(.int (2 : Int32)), (.ref a1)] _
        refine XS.iconst X62.here hx rfl (hb hby d6_116) ?_
        refine XS.iadd X62.here hx rfl (hb hby d6_117) rfl ?_
        refine st64 _ ?_
        show own_S p e below T64 m 121 #[rv a1, iv p2, iv (-1 : Int32), iv (0 : Int32)] [] _
        refine XS.aloadN X64.here hx rfl (hb hby d6_121) rfl rfl ?_
        exact k)
      obtain ⟨fs, hr, hrun, hended, hW, hsame⟩ := X64.leave (v := some (.ref a1)) (fun h => by rw [Bd.returns] at h; cases h)
      refine ⟨_, _, pre65 _ ?_, hrun, hended, _, _, rfl, ?_, ⟨_, rfl⟩, hW, hsame.mono (by decide) (by decide)⟩
      · show own_S p e below T64 m 122 #[rv a1, iv p2, iv (-1 : Int32), iv (0 : Int32)] [(.ref a1)] _
        exact retOut X64 hx (t := (.object "com/example/bitstrata/bitstrata/Container")) Bd.returns rfl (Or.inr (Or.inr (Or.inr (Or.inr ⟨rfl, rfl, rfl⟩)))) (hb hby d6_122) hr
      · show QAdd Z a1 p2 t k [x0, x1] h0 n0 _ T64.heap _
        rw [e64]
        have En_66 := (En_63.wr W64)
        have Fn_67 := ((Fn_58.other W60 (Or.inl (Ne.symm hne))).other W64 (Or.inr (slot_ne (Or.inl (hw _ (List.mem_of_getElem? (i := 11) rfl))) (Or.inl (hw _ (List.mem_of_getElem? (i := 13) rfl))) (by decide) (t := (.array .char)) (t' := .int) (by decide) (by decide))))
        have Vn_68 := (V60.other W64 hne)
        rw [hk] at Vn_68
        refine ⟨[p2, x0, x1], t, _, rfl, N64, ((((Keep.refl h0 [a1, t]).trans K57 (allS (Or.inl (List.mem_of_getElem? (i := 1) rfl)) all0)).wr W60 (Or.inl (List.mem_of_getElem? (i := 1) rfl))).wr W64 (Or.inl (List.mem_of_getElem? (i := 0) rfl))), En_66, Fn_67, Fw64, Vn_68, g_t, hne, Or.inl rfl, Nat.le_of_ble_eq_true rfl, Nat.le_of_ble_eq_true rfl, ?_, ?_, ?_⟩
        · exact ⟨(by first | assumption | exact own_tr (by assumption) (by assumption)), (by first | assumption | exact own_tr (by assumption) (by assumption)), trivial⟩
        · intro x hx; simp only [List.mem_cons, List.not_mem_nil, or_false] at hx; rcases hx with rfl | rfl | rfl <;> first | exact hk | exact hch _ (by simp)
        · intro x; simp only [List.mem_cons, List.not_mem_nil, or_false]; try (constructor; (intro h; rcases h with h | h | h <;> simp [h]); (intro h; rcases h with (h | h) | h <;> simp [h]))
    ·  -- case
      obtain ⟨T69, X69, e69, st69⟩ := getF X46 hx hZ hown (host := "") (Or.inl (hw _ (List.mem_of_getElem? (i := 12) rfl))) Via.refl e46 F_c' (g := (mkF m 21 #[rv a1, iv p2, iv (-2 : Int32), .unset] [(.ref a1)])) rfl rfl (hb hby d6_21)
      obtain ⟨T70, X70, e70, st70⟩ := getF X69 hx hZ hown (host := "") (Or.inl (hw _ (List.mem_of_getElem? (i := 12) rfl))) Via.refl e69 F_c' (g := (mkF m 48 #[rv a1, iv p2, iv (-2 : Int32), iv (1 : Int32)] [(.ref a1)])) rfl rfl (hb hby d6_48)
      obtain ⟨T71, X71, e71, st71⟩ := getF X70 hx hZ hown (host := "") (Or.inl (hw _ (List.mem_of_getElem? (i := 10) rfl))) Via.refl e70 F_v (g := (mkF m 52 #[rv a1, iv p2, iv (-2 : Int32), iv (1 : Int32)] [(.ref a1), (.int (2 : Int32))])) rfl rfl (hb hby d6_52)
      obtain ⟨cl72, Ar72, q72, S72, M72, -, -⟩ := id V_t'
      obtain ⟨T73, X73, e73, st73⟩ := getF X71 hx hZ hown (host := "") (Or.inl (hw _ (List.mem_of_getElem? (i := 10) rfl))) Via.refl e71 F_v (g := (mkF m 84 #[rv a1, iv p2, iv (-2 : Int32), iv (1 : Int32)] [(.ref a1)])) rfl rfl (hb hby d6_84)
      obtain ⟨T74, X74, e74, st74⟩ := getF X73 hx hZ hown (host := "") (Or.inl (hw _ (List.mem_of_getElem? (i := 10) rfl))) Via.refl e73 F_v (g := (mkF m 89 #[rv a1, iv p2, iv (-2 : Int32), iv (1 : Int32)] [(.ref a1), (.int (1 : Int32)), (.ref t)])) rfl rfl (hb hby d6_89)
      obtain ⟨T75, X75, e75, st75⟩ := getF X74 hx hZ hown (host := "") (Or.inl (hw _ (List.mem_of_getElem? (i := 12) rfl))) Via.refl e74 F_c' (g := (mkF m 96 #[rv a1, iv p2, iv (-2 : Int32), iv (1 : Int32)] [(.ref a1), (.int (2 : Int32)), (.ref t), (.int (1 : Int32)), (.ref t)])) rfl rfl (hb hby d6_96)
      obtain ⟨T76, h76, L76, X76, e76, N76, K76, Vc76, st76⟩ := cpA X75 hx hZ hown (hw _ (List.mem_of_getElem? (i := 48) rfl)) (hw _ (List.mem_of_getElem? (i := 51) rfl)) (hw _ (List.mem_of_getElem? (i := 49) rfl)) (hw _ (List.mem_of_getElem? (i := 50) rfl)) e75 (us := [(.int x1)]) (sp := (1 : Int32)) (dp := (2 : Int32)) (nn := (1 : Int32)) V_t' V_t' (Or.inl ⟨rfl, rfl⟩) (by decide) (by decide) (by decide) (by decide) (by decide) rfl (Nat.le_of_ble_eq_true rfl) N46 g_t (g := (mkF m 101 #[rv a1, iv p2, iv (-2 : Int32), iv (1 : Int32)] [(.int (1 : Int32)), (.int (2 : Int32)), (.ref t), (.int (1 : Int32)), (.ref t)])) rfl (by rw [hml]; rfl) rfl (hb hby d6_101) (by decide) (W := 0) (by show 2 * 0 + _ ≤ _; exact Nat.le_of_eq rfl) (by decide)
      have V76 : Arv Z h76 t k .char (4 : Int32) [(.int x0), (.int x1), (.int x1), (.int (0 : Int32))] (.int (0 : Int32)) := Vc76
      have Fn_77 := (F_v.keep K76 (ninS (Ne.symm hne) nin0))
      obtain ⟨T78, X78, e78, st78⟩ := getF X76 hx hZ hown (host := "") (Or.inl (hw _ (List.mem_of_getElem? (i := 10) rfl))) Via.refl e76 Fn_77 (g := (mkF m 105 #[rv a1, iv p2, iv (-2 : Int32), iv (1 : Int32)] [(.ref a1)])) rfl rfl (hb hby d6_105)
      obtain ⟨cl79, Ar79, q79, S79, M79, H79, G79⟩ := id V76
      have hin79 : ¬ ((1 : Int32) < 0 ∨ cl79.slots.size ≤ ((1 : Int32)).toNatClampNeg) := inb_of S79 ⟨by decide, by decide⟩
      obtain ⟨T79, h79, X79, e79, W79, st79⟩ := stC X78 hx hZ e78 Ar79 (j := (1 : Int32)) hin79 (g := (mkF m 110 #[rv a1, iv p2, iv (-2 : Int32), iv (1 : Int32)] [(.int p2), (.int (1 : Int32)), (.ref t)])) rfl rfl (hb hby d6_110)
      have V79 : Arv Z h79 t k .char (4 : Int32) [(.int x0), (.int (nar .char p2)), (.int x1), (.int (0 : Int32))] (.int (0 : Int32)) := Arv.set Ar79 q79 S79 M79 H79 G79 (fits_nar_char _) W79 1 rfl (Nat.le_of_ble_eq_true rfl)
      have N79 := Fr.snoc X79 N76 g_t
      have Fn_80 := ((F_c'.keep K76 (ninS (Ne.symm hne) nin0)).other W79 (Or.inl (Ne.symm hne)))
      obtain ⟨T81, X81, e81, st81⟩ := getF X79 hx hZ hown (host := "") (Or.inl (hw _ (List.mem_of_getElem? (i := 12) rfl))) Via.refl e79 Fn_80 (g := (mkF m 113 #[rv a1, iv p2, iv (-2 : Int32), iv (1 : Int32)] [(.ref a1), (.ref a1)])) rfl rfl (hb hby d6_113)
      have En_82 := ((E_a1.keep K76).wr W79)
      obtain ⟨T83, h83, X83, e83, W83, st83⟩ := putF X81 hx hZ hown (host := "") (Or.inl (hw _ (List.mem_of_getElem? (i := 12) rfl))) Via.refl e81 Fn_80 En_82 (Or.inl (hw _ (List.mem_of_getElem? (i := 13) rfl))) (hw _ (List.mem_of_getElem? (i := 1) rfl)) (ty := .int) (by decide) rfl rfl (g := (mkF m 118 #[rv a1, iv p2, iv (-2 : Int32), iv (1 : Int32)] [(.int (3 : Int32)), (.ref a1)])) rfl rfl (hb hby d6_118)
      have Fw83 := Fn_80.same W83
      have N83 := Fr.snoc X83 N79 g_a1
      have pre84 : ∀ tg, own_S p e below T83 m 122 #[rv a1, iv p2, iv (-2 : Int32), iv (1 : Int32)] [(.ref a1)] tg → Steps p.tables e below (s₁.setTop (entryFrame m #[(.ref a1), (.int p2)] 4)) tg := fun tg k => pre47 tg (by
        show own_S p e below T46 m 13 #[rv a1, iv p2, .unset, .unset] [(.int (-2 : Int32))] _
        refine XS.istoreN X46.here hx rfl (hb hby d6_13) rfl (l' := #[rv a1, iv p2, iv (-2 : Int32), .unset]) rfl ?_
        refine XS.iloadN X46.here hx rfl (hb hby d6_14) rfl ?_
        refine XS.ifYes X46.here hx rfl (pc0 := 15) (pc' := 20) rfl (hb hby d6_15) rfl ((if0 _ _).trans (tlt (by decide : (-2 : Int32) < (0 : Int32))).1) (by decide) (by decide) ?_
        show own_S p e below T46 m 20 #[rv a1, iv p2, iv (-2 : Int32), .unset] [] _
        refine XS.aloadN X46.here hx rfl (hb hby d6_20) rfl rfl ?_
        refine st69 _ ?_
        refine XS.sipush X69.here hx rfl (hb hby d6_24) ?_
        show own_S p e below T69 m 27 #[rv a1, iv p2, iv (-2 : Int32), .unset] [(.int (4096 : Int32)), (.int (2 : Int32))] _
        refine XS.icmpYes X69.here hx rfl (pc0 := 27) (pc' := 42) rfl (hb hby d6_27) rfl (feq (by decide : ¬ ((2 : Int32) = (4096 : Int32)))).2 (by decide) (by decide) ?_
        refine XS.iloadN X69.here hx rfl (hb hby d6_42) rfl ?_
        refine XS.ineg X69.here hx rfl (hb hby d6_43) rfl ?_
        show own_S p e below T69 m 44 #[rv a1, iv p2, iv (-2 : Int32), .unset] [(.int (2 : Int32))] _
        refine XS.iconst X69.here hx rfl (hb hby d6_44) ?_
        refine XS.isub X69.here hx rfl (hb hby d6_45) rfl ?_
        refine XS.istoreN X69.here hx rfl (hb hby d6_46) rfl (l' := #[rv a1, iv p2, iv (-2 : Int32), iv (1 : Int32)]) rfl ?_
        show own_S p e below T69 m 47 #[rv a1, iv p2, iv (-2 : Int32), iv (1 : Int32)] [] _
        refine XS.aloadN X69.here hx rfl (hb hby d6_47) rfl rfl ?_
        refine st70 _ ?_
        refine XS.aloadN X70.here hx rfl (hb hby d6_51) rfl rfl ?_
        show own_S p e below T70 m 52 #[rv a1, iv p2, iv (-2 : Int32), iv (1 : Int32)] [(.ref a1), (.int (2 : Int32))] _
        refine st71 _ ?_
        refine X71.arraylength hx (by rw [e71]; exact Ar72.1) (State.isArrayOf_alike hZ.alike Ar72.2.1) (g := (mkF m 55 #[rv a1, iv p2, iv (-2 : Int32), iv (1 : Int32)] [(.ref t), (.int (2 : Int32))])) rfl rfl (hb hby d6_55) _ ?_
        rw [len_of S72 M72]
        refine XS.icmpYes X71.here hx rfl (pc0 := 56) (pc' := 83) rfl (hb hby d6_56) rfl (feq (by decide : ¬ ((2 : Int32) = (4 : Int32)))).2 (by decide) (by decide) ?_
        show own_S p e below T71 m 83 #[rv a1, iv p2, iv (-2 : Int32), iv (1 : Int32)] [] _
        refine XS.aloadN X71.here hx rfl (hb hby d6_83) rfl rfl ?_
        refine st73 _ ?_
        refine XS.iloadN X73.here hx rfl (hb hby d6_87) rfl ?_
        show own_S p e below T73 m 88 #[rv a1, iv p2, iv (-2 : Int32), iv (1 : Int32)] [(.int (1 : Int32)), (.ref t)] _
        refine XS.aloadN X73.here hx rfl (hb hby d6_88) rfl rfl ?_
        refine st74 _ ?_
        refine XS.iloadN X74.here hx rfl (hb hby d6_92) rfl ?_
        show own_S p e below T74 m 93 #[rv a1, iv p2, iv (-2 : Int32), iv (1 : Int32)] [(.int (1 : Int32)), (.ref t), (.int (1 : Int32)), (.ref t)] _
        refine XS.iconst X74.here hx rfl (hb hby d6_93) ?_
        refine XS.iadd X74.here hx rfl (hb hby d6_94) rfl ?_
        refine XS.aloadN X74.here hx rfl (hb hby d6_95) rfl rfl ?_
        show own_S p e below T74 m 96 #[rv a1, iv p2, iv (-2 : Int32), iv (1 : Int32)] [(.ref a1), (.int (2 : Int32)), (.ref t), (.int (1 : Int32)), (.ref t)] _
        refine st75 _ ?_
        refine XS.iloadN X75.here hx rfl (hb hby d6_99) rfl ?_
        refine XS.isub X75.here hx rfl (hb hby d6_100) rfl ?_
        show own_S p e below T75 m 101 #[rv a1, iv p2, iv (-2 : Int32), iv (1 : Int32)] [(.int (1 : Int32)), (.int (2 : Int32)), (.ref t), (.int (1 : Int32)), (.ref t)] _
        refine st76 _ ?_
        refine XS.aloadN X76.here hx rfl (hb hby d6_104) rfl rfl ?_
        refine st78 _ ?_
        show own_S p e below T78 m 108 #[rv a1, iv p2, iv (-2 : Int32), iv (1 : Int32)] [(.ref t)] _
        refine XS.iloadN X78.here hx rfl (hb hby d6_108) rfl ?_
        refine XS.iloadN X78.here hx rfl (hb hby d6_109) rfl ?_
        refine st79 _ ?_
        show own_S p e below T79 m 111 #[rv a1, iv p2, iv (-2 : Int32), iv (1 : Int32)] [] _
        refine XS.aloadN X79.here hx rfl (hb hby d6_111) rfl rfl ?_
        refine XS.dup X79.here hx rfl (hb hby d6_112) rfl rfl ?_
        refine st81 _ ?_
        show own_S p e below T81 m 116 #[rv a1, iv p2, iv (-2 : Int32), iv (1 : Int32)] [(.int (2 : Int32)), (.ref a1)] _
        refine XS.iconst X81.here hx rfl (hb hby d6_116) ?_
        refine XS.iadd X81.here hx rfl (hb hby d6_117) rfl ?_
        refine st83 _ ?_
        show own_S p e below T83 m 121 #[rv a1, iv p2, iv (-2 : Int32), iv (1 : Int32)] [] _
        refine XS.aloadN X83.here hx rfl (hb hby d6_121) rfl rfl ?_
        exact k)
      obtain ⟨fs, hr, hrun, hended, hW, hsame⟩ := X83.leave (v := some (.ref a1)) (fun h => by rw [Bd.returns] at h; cases h)
      refine ⟨_, _, pre84 _ ?_, hrun, hended, _, _, rfl, ?_, ⟨_, rfl⟩, hW, hsame.mono (by decide) (by decide)⟩
      · show own_S p e below T83 m 122 #[rv a1, iv p2, iv (-2 : Int32), iv (1 : Int32)] [(.ref a1)] _
        exact retOut X83 hx (t := (.object "com/example/bitstrata/bitstrata/Container")) Bd.returns rfl (Or.inr (Or.inr (Or.inr (Or.inr ⟨rfl, rfl, rfl⟩)))) (hb hby d6_122) hr
      · show QAdd Z a1 p2 t k [x0, x1] h0 n0 _ T83.heap _
        rw [e83]
        have En_85 := (En_82.wr W83)
        have Fn_86 := ((Fn_77.other W79 (Or.inl (Ne.symm hne))).other W83 (Or.inr (slot_ne (Or.inl (hw _ (List.mem_of_getElem? (i := 11) rfl))) (Or.inl (hw _ (List.mem_of_getElem? (i := 13) rfl))) (by decide) (t := (.array .char)) (t' := .int) (by decide) (by decide))))
        have Vn_87 := (V79.other W83 hne)
        rw [hk] at Vn_87
        refine ⟨[x0, p2, x1], t, _, rfl, N83, ((((Keep.refl h0 [a1, t]).trans K76 (allS (Or.inl (List.mem_of_getElem? (i := 1) rfl)) all0)).wr W79 (Or.inl (List.mem_of_getElem? (i := 1) rfl))).wr W83 (Or.inl (List.mem_of_getElem? (i := 0) rfl))), En_85, Fn_86, Fw83, Vn_87, g_t, hne, Or.inl rfl, Nat.le_of_ble_eq_true rfl, Nat.le_of_ble_eq_true rfl, ?_, ?_, ?_⟩
        · exact ⟨(by first | assumption | exact own_tr (by assumption) (by assumption)), (by first | assumption | exact own_tr (by assumption) (by assumption)), trivial⟩
        · intro x hx; simp only [List.mem_cons, List.not_mem_nil, or_false] at hx; rcases hx with rfl | rfl | rfl <;> first | exact hk | exact hch _ (by simp)
        · intro x; simp only [List.mem_cons, List.not_mem_nil, or_false]; try (constructor; (intro h; rcases h with h | h | h <;> simp [h]); (intro h; rcases h with (h | h) | h <;> simp [h]))
    ·  -- case
      obtain ⟨T88, X88, e88, st88⟩ := getF X46 hx hZ hown (host := "") (Or.inl (hw _ (List.mem_of_getElem? (i := 12) rfl))) Via.refl e46 F_c' (g := (mkF m 21 #[rv a1, iv p2, iv (-3 : Int32), .unset] [(.ref a1)])) rfl rfl (hb hby d6_21)
      obtain ⟨T89, X89, e89, st89⟩ := getF X88 hx hZ hown (host := "") (Or.inl (hw _ (List.mem_of_getElem? (i := 12) rfl))) Via.refl e88 F_c' (g := (mkF m 48 #[rv a1, iv p2, iv (-3 : Int32), iv (2 : Int32)] [(.ref a1)])) rfl rfl (hb hby d6_48)
      obtain ⟨T90, X90, e90, st90⟩ := getF X89 hx hZ hown (host := "") (Or.inl (hw _ (List.mem_of_getElem? (i := 10) rfl))) Via.refl e89 F_v (g := (mkF m 52 #[rv a1, iv p2, iv (-3 : Int32), iv (2 : Int32)] [(.ref a1), (.int (2 : Int32))])) rfl rfl (hb hby d6_52)
      obtain ⟨cl91, Ar91, q91, S91, M91, -, -⟩ := id V_t'
      obtain ⟨T92, X92, e92, st92⟩ := getF X90 hx hZ hown (host := "") (Or.inl (hw _ (List.mem_of_getElem? (i := 10) rfl))) Via.refl e90 F_v (g := (mkF m 84 #[rv a1, iv p2, iv (-3 : Int32), iv (2 : Int32)] [(.ref a1)])) rfl rfl (hb hby d6_84)
      obtain ⟨T93, X93, e93, st93⟩ := getF X92 hx hZ hown (host := "") (Or.inl (hw _ (List.mem_of_getElem? (i := 10) rfl))) Via.refl e92 F_v (g := (mkF m 89 #[rv a1, iv p2, iv (-3 : Int32), iv (2 : Int32)] [(.ref a1), (.int (2 : Int32)), (.ref t)])) rfl rfl (hb hby d6_89)
      obtain ⟨T94, X94, e94, st94⟩ := getF X93 hx hZ hown (host := "") (Or.inl (hw _ (List.mem_of_getElem? (i := 12) rfl))) Via.refl e93 F_c' (g := (mkF m 96 #[rv a1, iv p2, iv (-3 : Int32), iv (2 : Int32)] [(.ref a1), (.int (3 : Int32)), (.ref t), (.int (2 : Int32)), (.ref t)])) rfl rfl (hb hby d6_96)
      obtain ⟨T95, h95, L95, X95, e95, N95, K95, Vc95, st95⟩ := cpA X94 hx hZ hown (hw _ (List.mem_of_getElem? (i := 48) rfl)) (hw _ (List.mem_of_getElem? (i := 51) rfl)) (hw _ (List.mem_of_getElem? (i := 49) rfl)) (hw _ (List.mem_of_getElem? (i := 50) rfl)) e94 (us := []) (sp := (2 : Int32)) (dp := (3 : Int32)) (nn := (0 : Int32)) V_t' V_t' (Or.inl ⟨rfl, rfl⟩) (by decide) (by decide) (by decide) (by decide) (by decide) rfl (Nat.le_of_ble_eq_true rfl) N46 g_t (g := (mkF m 101 #[rv a1, iv p2, iv (-3 : Int32), iv (2 : Int32)] [(.int (0 : Int32)), (.int (3 : Int32)), (.ref t), (.int (2 : Int32)), (.ref t)])) rfl (by rw [hml]; rfl) rfl (hb hby d6_101) (by decide) (W := 0) (by show 2 * 0 + _ ≤ _; exact Nat.le_of_eq rfl) (by decide)
      have V95 : Arv Z h95 t k .char (4 : Int32) [(.int x0), (.int x1), (.int (0 : Int32)), (.int (0 : Int32))] (.int (0 : Int32)) := Vc95
      have Fn_96 := (F_v.keep K95 (ninS (Ne.symm hne) nin0))
      obtain ⟨T97, X97, e97, st97⟩ := getF X95 hx hZ hown (host := "") (Or.inl (hw _ (List.mem_of_getElem? (i := 10) rfl))) Via.refl e95 Fn_96 (g := (mkF m 105 #[rv a1, iv p2, iv (-3 : Int32), iv (2 : Int32)] [(.ref a1)])) rfl rfl (hb hby d6_105)
      obtain ⟨cl98, Ar98, q98, S98, M98, H98, G98⟩ := id V95
      have hin98 : ¬ ((2 : Int32) < 0 ∨ cl98.slots.size ≤ ((2 : Int32)).toNatClampNeg) := inb_of S98 ⟨by decide, by decide⟩
      obtain ⟨T98, h98, X98, e98, W98, st98⟩ := stC X97 hx hZ e97 Ar98 (j := (2 : Int32)) hin98 (g := (mkF m 110 #[rv a1, iv p2, iv (-3 : Int32), iv (2 : Int32)] [(.int p2), (.int (2 : Int32)), (.ref t)])) rfl rfl (hb hby d6_110)
      have V98 : Arv Z h98 t k .char (4 : Int32) [(.int x0), (.int x1), (.int (nar .char p2)), (.int (0 : Int32))] (.int (0 : Int32)) := Arv.set Ar98 q98 S98 M98 H98 G98 (fits_nar_char _) W98 2 rfl (Nat.le_of_ble_eq_true rfl)
      have N98 := Fr.snoc X98 N95 g_t
      have Fn_99 := ((F_c'.keep K95 (ninS (Ne.symm hne) nin0)).other W98 (Or.inl (Ne.symm hne)))
      obtain ⟨T100, X100, e100, st100⟩ := getF X98 hx hZ hown (host := "") (Or.inl (hw _ (List.mem_of_getElem? (i := 12) rfl))) Via.refl e98 Fn_99 (g := (mkF m 113 #[rv a1, iv p2, iv (-3 : Int32), iv (2 : Int32)] [(.ref a1), (.ref a1)])) rfl rfl (hb hby d6_113)
      have En_101 := ((E_a1.keep K95).wr W98)
      obtain ⟨T102, h102, X102, e102, W102, st102⟩ := putF X100 hx hZ hown (host := "") (Or.inl (hw _ (List.mem_of_getElem? (i := 12) rfl))) Via.refl e100 Fn_99 En_101 (Or.inl (hw _ (List.mem_of_getElem? (i := 13) rfl))) (hw _ (List.mem_of_getElem? (i := 1) rfl)) (ty := .int) (by decide) rfl rfl (g := (mkF m 118 #[rv a1, iv p2, iv (-3 : Int32), iv (2 : Int32)] [(.int (3 : Int32)), (.ref a1)])) rfl rfl (hb hby d6_118)
      have Fw102 := Fn_99.same W102
      have N102 := Fr.snoc X102 N98 g_a1
      have pre103 : ∀ tg, own_S p e below T102 m 122 #[rv a1, iv p2, iv (-3 : Int32), iv (2 : Int32)] [(.ref a1)] tg → Steps p.tables e below (s₁.setTop (entryFrame m #[(.ref a1), (.int p2)] 4)) tg := fun tg k => pre47 tg (by
        show own_S p e below T46 m 13 #[rv a1, iv p2, .unset, .unset] [(.int (-3 : Int32))] _
        refine XS.istoreN X46.here hx rfl (hb hby d6_13) rfl (l' := #[rv a1, iv p2, iv (-3 : Int32), .unset]) rfl ?_
        refine XS.iloadN X46.here hx rfl (hb hby d6_14) rfl ?_
        refine XS.ifYes X46.here hx rfl (pc0 := 15) (pc' := 20) rfl (hb hby d6_15) rfl ((if0 _ _).trans (tlt (by decide : (-3 : Int32) < (0 : Int32))).1) (by decide) (by decide) ?_
        show own_S p e below T46 m 20 #[rv a1, iv p2, iv (-3 : Int32), .unset] [] _
        refine XS.aloadN X46.here hx rfl (hb hby d6_20) rfl rfl ?_
        refine st88 _ ?_
        refine XS.sipush X88.here hx rfl (hb hby d6_24) ?_
        show own_S p e below T88 m 27 #[rv a1, iv p2, iv (-3 : Int32), .unset] [(.int (4096 : Int32)), (.int (2 : Int32))] _
        refine XS.icmpYes X88.here hx rfl (pc0 := 27) (pc' := 42) rfl (hb hby d6_27) rfl (feq (by decide : ¬ ((2 : Int32) = (4096 : Int32)))).2 (by decide) (by decide) ?_
        refine XS.iloadN X88.here hx rfl (hb hby d6_42) rfl ?_
        refine XS.ineg X88.here hx rfl (hb hby d6_43) rfl ?_
        show own_S p e below T88 m 44 #[rv a1, iv p2, iv (-3 : Int32), .unset] [(.int (3 : Int32))] _
        refine XS.iconst X88.here hx rfl (hb hby d6_44) ?_
        refine XS.isub X88.here hx rfl (hb hby d6_45) rfl ?_
        refine XS.istoreN X88.here hx rfl (hb hby d6_46) rfl (l' := #[rv a1, iv p2, iv (-3 : Int32), iv (2 : Int32)]) rfl ?_
        show own_S p e below T88 m 47 #[rv a1, iv p2, iv (-3 : Int32), iv (2 : Int32)] [] _
        refine XS.aloadN X88.here hx rfl (hb hby d6_47) rfl rfl ?_
        refine st89 _ ?_
        refine XS.aloadN X89.here hx rfl (hb hby d6_51) rfl rfl ?_
        show own_S p e below T89 m 52 #[rv a1, iv p2, iv (-3 : Int32), iv (2 : Int32)] [(.ref a1), (.int (2 : Int32))] _
        refine st90 _ ?_
        refine X90.arraylength hx (by rw [e90]; exact Ar91.1) (State.isArrayOf_alike hZ.alike Ar91.2.1) (g := (mkF m 55 #[rv a1, iv p2, iv (-3 : Int32), iv (2 : Int32)] [(.ref t), (.int (2 : Int32))])) rfl rfl (hb hby d6_55) _ ?_
        rw [len_of S91 M91]
        refine XS.icmpYes X90.here hx rfl (pc0 := 56) (pc' := 83) rfl (hb hby d6_56) rfl (feq (by decide : ¬ ((2 : Int32) = (4 : Int32)))).2 (by decide) (by decide) ?_
        show own_S p e below T90 m 83 #[rv a1, iv p2, iv (-3 : Int32), iv (2 : Int32)] [] _
        refine XS.aloadN X90.here hx rfl (hb hby d6_83) rfl rfl ?_
        refine st92 _ ?_
        refine XS.iloadN X92.here hx rfl (hb hby d6_87) rfl ?_
        show own_S p e below T92 m 88 #[rv a1, iv p2, iv (-3 : Int32), iv (2 : Int32)] [(.int (2 : Int32)), (.ref t)] _
        refine XS.aloadN X92.here hx rfl (hb hby d6_88) rfl rfl ?_
        refine st93 _ ?_
        refine XS.iloadN X93.here hx rfl (hb hby d6_92) rfl ?_
        show own_S p e below T93 m 93 #[rv a1, iv p2, iv (-3 : Int32), iv (2 : Int32)] [(.int (2 : Int32)), (.ref t), (.int (2 : Int32)), (.ref t)] _
        refine XS.iconst X93.here hx rfl (hb hby d6_93) ?_
        refine XS.iadd X93.here hx rfl (hb hby d6_94) rfl ?_
        refine XS.aloadN X93.here hx rfl (hb hby d6_95) rfl rfl ?_
        show own_S p e below T93 m 96 #[rv a1, iv p2, iv (-3 : Int32), iv (2 : Int32)] [(.ref a1), (.int (3 : Int32)), (.ref t), (.int (2 : Int32)), (.ref t)] _
        refine st94 _ ?_
        refine XS.iloadN X94.here hx rfl (hb hby d6_99) rfl ?_
        refine XS.isub X94.here hx rfl (hb hby d6_100) rfl ?_
        show own_S p e below T94 m 101 #[rv a1, iv p2, iv (-3 : Int32), iv (2 : Int32)] [(.int (0 : Int32)), (.int (3 : Int32)), (.ref t), (.int (2 : Int32)), (.ref t)] _
        refine st95 _ ?_
        refine XS.aloadN X95.here hx rfl (hb hby d6_104) rfl rfl ?_
        refine st97 _ ?_
        show own_S p e below T97 m 108 #[rv a1, iv p2, iv (-3 : Int32), iv (2 : Int32)] [(.ref t)] _
        refine XS.iloadN X97.here hx rfl (hb hby d6_108) rfl ?_
        refine XS.iloadN X97.here hx rfl (hb hby d6_109) rfl ?_
        refine st98 _ ?_
        show own_S p e below T98 m 111 #[rv a1, iv p2, iv (-3 : Int32), iv (2 : Int32)] [] _
        refine XS.aloadN X98.here hx rfl (hb hby d6_111) rfl rfl ?_
        refine XS.dup X98.here hx rfl (hb hby d6_112) rfl rfl ?_
        refine st100 _ ?_
        show own_S p e below T100 m 116 #[rv a1, iv p2, iv (-3 : Int32), iv (2 : Int32)] [(.int (2 : Int32)), (.ref a1)] _
        refine XS.iconst X100.here hx rfl (hb hby d6_116) ?_
        refine XS.iadd X100.here hx rfl (hb hby d6_117) rfl ?_
        refine st102 _ ?_
        show own_S p e below T102 m 121 #[rv a1, iv p2, iv (-3 : Int32), iv (2 : Int32)] [] _
        refine XS.aloadN X102.here hx rfl (hb hby d6_121) rfl rfl ?_
        exact k)
      obtain ⟨fs, hr, hrun, hended, hW, hsame⟩ := X102.leave (v := some (.ref a1)) (fun h => by rw [Bd.returns] at h; cases h)
      refine ⟨_, _, pre103 _ ?_, hrun, hended, _, _, rfl, ?_, ⟨_, rfl⟩, hW, hsame.mono (by decide) (by decide)⟩
      · show own_S p e below T102 m 122 #[rv a1, iv p2, iv (-3 : Int32), iv (2 : Int32)] [(.ref a1)] _
        exact retOut X102 hx (t := (.object "com/example/bitstrata/bitstrata/Container")) Bd.returns rfl (Or.inr (Or.inr (Or.inr (Or.inr ⟨rfl, rfl, rfl⟩)))) (hb hby d6_122) hr
      · show QAdd Z a1 p2 t k [x0, x1] h0 n0 _ T102.heap _
        rw [e102]
        have En_104 := (En_101.wr W102)
        have Fn_105 := ((Fn_96.other W98 (Or.inl (Ne.symm hne))).other W102 (Or.inr (slot_ne (Or.inl (hw _ (List.mem_of_getElem? (i := 11) rfl))) (Or.inl (hw _ (List.mem_of_getElem? (i := 13) rfl))) (by decide) (t := (.array .char)) (t' := .int) (by decide) (by decide))))
        have Vn_106 := (V98.other W102 hne)
        rw [hk] at Vn_106
        refine ⟨[x0, x1, p2], t, _, rfl, N102, ((((Keep.refl h0 [a1, t]).trans K95 (allS (Or.inl (List.mem_of_getElem? (i := 1) rfl)) all0)).wr W98 (Or.inl (List.mem_of_getElem? (i := 1) rfl))).wr W102 (Or.inl (List.mem_of_getElem? (i := 0) rfl))), En_104, Fn_105, Fw102, Vn_106, g_t, hne, Or.inl rfl, Nat.le_of_ble_eq_true rfl, Nat.le_of_ble_eq_true rfl, ?_, ?_, ?_⟩
        · exact ⟨(by first | assumption | exact own_tr (by assumption) (by assumption)), (by first | assumption | exact own_tr (by assumption) (by assumption)), trivial⟩
        · intro x hx; simp only [List.mem_cons, List.not_mem_nil, or_false] at hx; rcases hx with rfl | rfl | rfl <;> first | exact hk | exact hch _ (by simp)
        · intro x; simp only [List.mem_cons, List.not_mem_nil, or_false]; try (constructor; (intro h; rcases h with h | h | h <;> simp [h]); (intro h; rcases h with (h | h) | h <;> simp [h]))
  ·  -- case
    obtain ⟨x0, x1, x2, rfl⟩ := own_len3 hl
    have F_c' : Fld Z h0 a1 "com/example/bitstrata/bitstrata/ArrayContainer" "cardinality" "I" (.int (3 : Int32)) := F_c
    have V_t' : Arv Z h0 t k .char (4 : Int32) [(.int x0), (.int x1), (.int x2), (.int (0 : Int32))] (.int (0 : Int32)) := V_t
    have s01 : x0 < x1 := hs.1
    have s12 : x1 < x2 := hs.2.1
    obtain ⟨T107, X107, e107, st107⟩ := getF X0 hx hZ hown (host := "") (Or.inl (hw _ (List.mem_of_getElem? (i := 10) rfl))) Via.refl e0 F_v (g := (mkF m 1 #[rv a1, iv p2, .unset, .unset] [(.ref a1)])) rfl rfl (hb hby d6_1)
    obtain ⟨T108, X108, e108, st108⟩ := getF X107 hx hZ hown (host := "") (Or.inl (hw _ (List.mem_of_getElem? (i := 12) rfl))) Via.refl e107 F_c' (g := (mkF m 6 #[rv a1, iv p2, .unset, .unset] [(.ref a1), (.int (0 : Int32)), (.ref t)])) rfl rfl (hb hby d6_6)
    obtain ⟨_, _, ⟨T109, L109, k109, n109⟩, -, X109, ⟨Lc109, hQ109, l109, y109, z109⟩, st109⟩ := Jvm.LawKit.callS X108 hx (y := (⟨"java/util/Arrays", "binarySearch", "([CIIC)I"⟩ : MethodName)) hown (mvT hZ (hw _ (List.mem_of_getElem? (i := 38) rfl))) (mvT hZ (hw _ (List.mem_of_getElem? (i := 39) rfl))) (mvT hZ (hw _ (List.mem_of_getElem? (i := 40) rfl))) (mvT hZ (hw _ (List.mem_of_getElem? (i := 41) rfl))) (by decide) (backOf (W := 0) (rmS3 l Z a0 hw [] t p2 k x0 x1 x2 h0 n0 Z0 V_t') hZ (hw _ (List.mem_of_getElem? (i := 41) rfl)) (hw _ (List.mem_of_getElem? (i := 40) rfl)) (by decide) (by decide)) (g := (mkF m 10 #[rv a1, iv p2, .unset, .unset] [(.int p2), (.int (3 : Int32)), (.int (0 : Int32)), (.ref t)])) rfl (by rw [hml]; rfl) (argsL := [(.ref t), (.int (0 : Int32)), (.int (3 : Int32)), (.int p2)]) (rest := []) (lenOf pd_1 rfl) rfl (by show 2 * 0 + _ ≤ _; exact Nat.le_of_eq rfl) (hb hby d6_10) (fun _ _ => ⟨rfl, e108, (by decide : 0 + 0 ≤ _), (by decide : 0 + 0 ≤ _)⟩)
    dsimp only [Pt.U, Pt.locs, Pt.cells, Pt.slots] at X109 l109 y109 z109 st109 hQ109
    subst l109 y109 z109
    obtain ⟨r109, rfl, N109q, e109q, hD109⟩ := hQ109
    have N109 := Fr.app N0 N109q
    have e109 : T109.heap = h0 := e109q
    have pre110 : ∀ tg, own_S p e below T109 m 13 #[rv a1, iv p2, .unset, .unset] [(.int r109)] tg → Steps p.tables e below (s₁.setTop (entryFrame m #[(.ref a1), (.int p2)] 4)) tg := fun tg k => pre0 tg (by
      show own_S p e below s₁ m 0 #[rv a1, iv p2, .unset, .unset] [] _
      refine XS.aloadN X0.here hx rfl (hb hby d6_0) rfl rfl ?_
      refine st107 _ ?_
      refine XS.iconst X107.here hx rfl (hb hby d6_4) ?_
      show own_S p e below T107 m 5 #[rv a1, iv p2, .unset, .unset] [(.int (0 : Int32)), (.ref t)] _
      refine XS.aloadN X107.here hx rfl (hb hby d6_5) rfl rfl ?_
      refine st108 _ ?_
      refine XS.iloadN X108.here hx rfl (hb hby d6_9) rfl ?_
      show own_S p e below T108 m 10 #[rv a1, iv p2, .unset, .unset] [(.int p2), (.int (3 : Int32)), (.int (0 : Int32)), (.ref t)] _
      refine st109 _ ?_
      exact k)
    rcases hD109 with ⟨rfl, q0⟩ | ⟨rfl, q0⟩ | ⟨rfl, q0⟩ | ⟨rfl, q0⟩ | ⟨rfl, q0, q1⟩ | ⟨rfl, q0, q1⟩ | ⟨rfl, q0⟩
    ·  -- case
      have pre111 : ∀ tg, own_S p e below T109 m 19 #[rv a1, iv p2, iv (0 : Int32), .unset] [(.ref a1)] tg → Steps p.tables e below (s₁.setTop (entryFrame m #[(.ref a1), (.int p2)] 4)) tg := fun tg k => pre110 tg (by
        show own_S p e below T109 m 13 #[rv a1, iv p2, .unset, .unset] [(.int (0 : Int32))] _
        refine XS.istoreN X109.here hx rfl (hb hby d6_13) rfl (l' := #[rv a1, iv p2, iv (0 : Int32), .unset]) rfl ?_
        refine XS.iloadN X109.here hx rfl (hb hby d6_14) rfl ?_
        refine XS.ifNo X109.here hx rfl (hb hby d6_15) rfl ((if0 _ _).trans (flt (by decide : ¬ ((0 : Int32) < (0 : Int32)))).1) ?_
        show own_S p e below T109 m 18 #[rv a1, iv p2, iv (0 : Int32), .unset] [] _
        refine XS.aloadN X109.here hx rfl (hb hby d6_18) rfl rfl ?_
        exact k)
      obtain ⟨fs, hr, hrun, hended, hW, hsame⟩ := X109.leave (v := some (.ref a1)) (fun h => by rw [Bd.returns] at h; cases h)
      refine ⟨_, _, pre111 _ ?_, hrun, hended, _, _, rfl, ?_, ⟨_, rfl⟩, hW, hsame.mono (by decide) (by decide)⟩
      · show own_S p e below T109 m 19 #[rv a1, iv p2, iv (0 : Int32), .unset] [(.ref a1)] _
        exact retOut X109 hx (t := (.object "com/example/bitstrata/bitstrata/Container")) Bd.returns rfl (Or.inr (Or.inr (Or.inr (Or.inr ⟨rfl, rfl, rfl⟩)))) (hb hby d6_19) hr
      · show QAdd Z a1 p2 t k [x0, x1, x2] h0 n0 _ T109.heap _
        rw [e109]
        refine ⟨[x0, x1, x2], t, _, rfl, N109, (Keep.refl h0 [a1, t]), E_a1, F_v, F_c', V_t', g_t, hne, Or.inl rfl, Nat.le_of_ble_eq_true rfl, Nat.le_of_ble_eq_true rfl, ?_, ?_, ?_⟩
        · exact ⟨(by first | assumption | exact own_tr (by assumption) (by assumption)), (by first | assumption | exact own_tr (by assumption) (by assumption)), trivial⟩
        · exact hch
        · intro x; simp only [List.mem_cons, List.not_mem_nil, or_false]
          constructor
          · intro h; exact Or.inl h
          · intro h; rcases h with h | h
            · exact h
            · simp [h, ← q0]
    ·  -- case
      have pre112 : ∀ tg, own_S p e below T109 m 19 #[rv a1, iv p2, iv (1 : Int32), .unset] [(.ref a1)] tg → Steps p.tables e below (s₁.setTop (entryFrame m #[(.ref a1), (.int p2)] 4)) tg := fun tg k => pre110 tg (by
        show own_S p e below T109 m 13 #[rv a1, iv p2, .unset, .unset] [(.int (1 : Int32))] _
        refine XS.istoreN X109.here hx rfl (hb hby d6_13) rfl (l' := #[rv a1, iv p2, iv (1 : Int32), .unset]) rfl ?_
        refine XS.iloadN X109.here hx rfl (hb hby d6_14) rfl ?_
        refine XS.ifNo X109.here hx rfl (hb hby d6_15) rfl ((if0 _ _).trans (flt (by decide : ¬ ((1 : Int32) < (0 : Int32)))).1) ?_
        show own_S p e below T109 m 18 #[rv a1, iv p2, iv (1 : Int32), .unset] [] _
        refine XS.aloadN X109.here hx rfl (hb hby d6_18) rfl rfl ?_
        exact k)
      obtain ⟨fs, hr, hrun, hended, hW, hsame⟩ := X109.leave (v := some (.ref a1)) (fun h => by rw [Bd.returns] at h; cases h)
      refine ⟨_, _, pre112 _ ?_, hrun, hended, _, _, rfl, ?_, ⟨_, rfl⟩, hW, hsame.mono (by decide) (by decide)⟩
      · show own_S p e below T109 m 19 #[rv a1, iv p2, iv (1 : Int32), .unset] [(.ref a1)] _
        exact retOut X109 hx (t := (.object "com/example/bitstrata/bitstrata/Container")) Bd.returns rfl (Or.inr (Or.inr (Or.inr (Or.inr ⟨rfl, rfl, rfl⟩)))) (hb hby d6_19) hr
      · show QAdd Z a1 p2 t k [x0, x1, x2] h0 n0 _ T109.heap _
        rw [e109]
        refine ⟨[x0, x1, x2], t, _, rfl, N109, (Keep.refl h0 [a1, t]), E_a1, F_v, F_c', V_t', g_t, hne, Or.inl rfl, Nat.le_of_ble_eq_true rfl, Nat.le_of_ble_eq_true rfl, ?_, ?_, ?_⟩
        · exact ⟨(by first | assumption | exact own_tr (by assumption) (by assumption)), (by first | assumption | exact own_tr (by assumption) (by assumption)), trivial⟩
        · exact hch
        · intro x; simp only [List.mem_cons, List.not_mem_nil, or_false]
          constructor
          · intro h; exact Or.inl h
          · intro h; rcases h with h | h
            · exact h
            · simp [h, ← q0]
    ·  -- case
      have pre113 : ∀ tg, own_S p e below T109 m 19 #[rv a1, iv p2, iv (2 : Int32), .unset] [(.ref a1)] tg → Steps p.tables e below (s₁.setTop (entryFrame m #[(.ref a1), (.int p2)] 4)) tg := fun tg k => pre110 tg (by
        show own_S p e below T109 m 13 #[rv a1, iv p2, .unset, .unset] [(.int (2 : Int32))] _
        refine XS.istoreN X109.here hx rfl (hb hby d6_13) rfl (l' := #[rv a1, iv p2, iv (2 : Int32), .unset]) rfl ?_
        refine XS.iloadN X109.here hx rfl (hb hby d6_14) rfl ?_
        refine XS.ifNo X109.here hx rfl (hb hby d6_15) rfl ((if0 _ _).trans (flt (by decide : ¬ ((2 : Int32) < (0 : Int32)))).1) ?_
        show own_S p e below T109 m 18 #[rv a1, iv p2, iv (2 : Int32), .unset] [] _
        refine XS.aloadN X109.here hx rfl (hb hby d6_18) rfl rfl ?_
        exact k)
      obtain ⟨fs, hr, hrun, hended, hW, hsame⟩ := X109.leave (v := some (.ref a1)) (fun h => by rw [Bd.returns] at h; cases h)
      refine ⟨_, _, pre113 _ ?_, hrun, hended, _, _, rfl, ?_, ⟨_, rfl⟩, hW, hsame.mono (by decide) (by decide)⟩
      · show own_S p e below T109 m 19 #[rv a1, iv p2, iv (2 : Int32), .unset] [(.ref a1)] _
        exact retOut X109 hx (t := (.object "com/example/bitstrata/bitstrata/Container")) Bd.returns rfl (Or.inr (Or.inr (Or.inr (Or.inr ⟨rfl, rfl, rfl⟩)))) (hb hby d6_19) hr
      · show QAdd Z a1 p2 t k [x0, x1, x2] h0 n0 _ T109.heap _
        rw [e109]
        refine ⟨[x0, x1, x2], t, _, rfl, N109, (Keep.refl h0 [a1, t]), E_a1, F_v, F_c', V_t', g_t, hne, Or.inl rfl, Nat.le_of_ble_eq_true rfl, Nat.le_of_ble_eq_true rfl, ?_, ?_, ?_⟩
        · exact ⟨(by first | assumption | exact own_tr (by assumption) (by assumption)), (by first | assumption | exact own_tr (by assumption) (by assumption)), trivial⟩
        · exact hch
        · intro x; simp only [List.mem_cons, List.not_mem_nil, or_false]
          constructor
          · intro h; exact Or.inl h
          · intro h; rcases h with h | h
            · exact h
            · simp [h, ← q0]
    ·  -- case
      obtain ⟨T114, X114, e114, st114⟩ := getF X109 hx hZ hown (host := "") (Or.inl (hw _ (List.mem_of_getElem? (i := 12) rfl))) Via.refl e109 F_c' (g := (mkF m 21 #[rv a1, iv p2, iv (-1 : Int32), .unset] [(.ref a1)])) rfl rfl (hb hby d6_21)
      obtain ⟨T115, X115, e115, st115⟩ := getF X114 hx hZ hown (host := "") (Or.inl (hw _ (List.mem_of_getElem? (i := 12) rfl))) Via.refl e114 F_c' (g := (mkF m 48 #[rv a1, iv p2, iv (-1 : Int32), iv (0 : Int32)] [(.ref a1)])) rfl rfl (hb hby d6_48)
      obtain ⟨T116, X116, e116, st116⟩ := getF X115 hx hZ hown (host := "") (Or.inl (hw _ (List.mem_of_getElem? (i := 10) rfl))) Via.refl e115 F_v (g := (mkF m 52 #[rv a1, iv p2, iv (-1 : Int32), iv (0 : Int32)] [(.ref a1), (.int (3 : Int32))])) rfl rfl (hb hby d6_52)
      obtain ⟨cl117, Ar117, q117, S117, M117, -, -⟩ := id V_t'
      obtain ⟨T118, X118, e118, st118⟩ := getF X116 hx hZ hown (host := "") (Or.inl (hw _ (List.mem_of_getElem? (i := 10) rfl))) Via.refl e116 F_v (g := (mkF m 84 #[rv a1, iv p2, iv (-1 : Int32), iv (0 : Int32)] [(.ref a1)])) rfl rfl (hb hby d6_84)
      obtain ⟨T119, X119, e119, st119⟩ := getF X118 hx hZ hown (host := "") (Or.inl (hw _ (List.mem_of_getElem? (i := 10) rfl))) Via.refl e118 F_v (g := (mkF m 89 #[rv a1, iv p2, iv (-1 : Int32), iv (0 : Int32)] [(.ref a1), (.int (0 : Int32)), (.ref t)])) rfl rfl (hb hby d6_89)
      obtain ⟨T120, X120, e120, st120⟩ := getF X119 hx hZ hown (host := "") (Or.inl (hw _ (List.mem_of_getElem? (i := 12) rfl))) Via.refl e119 F_c' (g := (mkF m 96 #[rv a1, iv p2, iv (-1 : Int32), iv (0 : Int32)] [(.ref a1), (.int (1 : Int32)), (.ref t), (.int (0 : Int32)), (.ref t)])) rfl rfl (hb hby d6_96)
      obtain ⟨T121, h121, L121, X121, e121, N121, K121, Vc121, st121⟩ := cpA X120 hx hZ hown (hw _ (List.mem_of_getElem? (i := 48) rfl)) (hw _ (List.mem_of_getElem? (i := 51) rfl)) (hw _ (List.mem_of_getElem? (i := 49) rfl)) (hw _ (List.mem_of_getElem? (i := 50) rfl)) e120 (us := [(.int x0), (.int x1), (.int x2)]) (sp := (0 : Int32)) (dp := (1 : Int32)) (nn := (3 : Int32)) V_t' V_t' (Or.inl ⟨rfl, rfl⟩) (by decide) (by decide) (by decide) (by decide) (by decide) rfl (Nat.le_of_ble_eq_true rfl) N109 g_t (g := (mkF m 101 #[rv a1, iv p2, iv (-1 : Int32), iv (0 : Int32)] [(.int (3 : Int32)), (.int (1 : Int32)), (.ref t), (.int (0 : Int32)), (.ref t)])) rfl (by rw [hml]; rfl) rfl (hb hby d6_101) (by decide) (W := 0) (by show 2 * 0 + _ ≤ _; exact Nat.le_of_eq rfl) (by decide)
      have V121 : Arv Z h121 t k .char (4 : Int32) [(.int x0), (.int x0), (.int x1), (.int x2)] (.int (0 : Int32)) := Vc121
      have Fn_122 := (F_v.keep K121 (ninS (Ne.symm hne) nin0))
      obtain ⟨T123, X123, e123, st123⟩ := getF X121 hx hZ hown (host := "") (Or.inl (hw _ (List.mem_of_getElem? (i := 10) rfl))) Via.refl e121 Fn_122 (g := (mkF m 105 #[rv a1, iv p2, iv (-1 : Int32), iv (0 : Int32)] [(.ref a1)])) rfl rfl (hb hby d6_105)
      obtain ⟨cl124, Ar124, q124, S124, M124, H124, G124⟩ := id V121
      have hin124 : ¬ ((0 : Int32) < 0 ∨ cl124.slots.size ≤ ((0 : Int32)).toNatClampNeg) := inb_of S124 ⟨by decide, by decide⟩
      obtain ⟨T124, h124, X124, e124, W124, st124⟩ := stC X123 hx hZ e123 Ar124 (j := (0 : Int32)) hin124 (g := (mkF m 110 #[rv a1, iv p2, iv (-1 : Int32), iv (0 : Int32)] [(.int p2), (.int (0 : Int32)), (.ref t)])) rfl rfl (hb hby d6_110)
      have V124 : Arv Z h124 t k .char (4 : Int32) [(.int (nar .char p2)), (.int x0), (.int x1), (.int x2)] (.int (0 : Int32)) := Arv.set Ar124 q124 S124 M124 H124 G124 (fits_nar_char _) W124 0 rfl (Nat.le_of_ble_eq_true rfl)
      have N124 := Fr.snoc X124 N121 g_t
      have Fn_125 := ((F_c'.keep K121 (ninS (Ne.symm hne) nin0)).other W124 (Or.inl (Ne.symm hne)))
      obtain ⟨T126, X126, e126, st126⟩ := getF X124 hx hZ hown (host := "") (Or.inl (hw _ (List.mem_of_getElem? (i := 12) rfl))) Via.refl e124 Fn_125 (g := (mkF m 113 #[rv a1, iv p2, iv (-1 : Int32), iv (0 : Int32)] [(.ref a1), (.ref a1)])) rfl rfl (hb hby d6_113)
      have En_127 := ((E_a1.keep K121).wr W124)
      obtain ⟨T128, h128, X128, e128, W128, st128⟩ := putF X126 hx hZ hown (host := "") (Or.inl (hw _ (List.mem_of_getElem? (i := 12) rfl))) Via.refl e126 Fn_125 En_127 (Or.inl (hw _ (List.mem_of_getElem? (i := 13) rfl))) (hw _ (List.mem_of_getElem? (i := 1) rfl)) (ty := .int) (by decide) rfl rfl (g := (mkF m 118 #[rv a1, iv p2, iv (-1 : Int32), iv (0 : Int32)] [(.int (4 : Int32)), (.ref a1)])) rfl rfl (hb hby d6_118)
      have Fw128 := Fn_125.same W128
      have N128 := Fr.snoc X128 N124 g_a1
      have pre129 : ∀ tg, own_S p e below T128 m 122 #[rv a1, iv p2, iv (-1 : Int32), iv (0 : Int32)] [(.ref a1)] tg → Steps p.tables e below (s₁.setTop (entryFrame m #[(.ref a1), (.int p2)] 4)) tg := fun tg k => pre110 tg (by
        show own_S p e below T109 m 13 #[rv a1, iv p2, .unset, .unset] [(.int (-1 : Int32))] _
        refine XS.istoreN X109.here hx rfl (hb hby d6_13) rfl (l' := #[rv a1, iv p2, iv (-1 : Int32), .unset]) rfl ?_
        refine XS.iloadN X109.here hx rfl (hb hby d6_14) rfl ?_
        refine XS.ifYes X109.here hx rfl (pc0 := 15) (pc' := 20) rfl (hb hby d6_15) rfl ((if0 _ _).trans (tlt (by decide : (-1 : Int32) < (0 : Int32))).1) (by decide) (by decide) ?_
        show own_S p e below T109 m 20 #[rv a1, iv p2, iv (-1 : Int32), .unset] [] _
        refine XS.aloadN X109.here hx rfl (hb hby d6_20) rfl rfl ?_
        refine st114 _ ?_
        refine XS.sipush X114.here hx rfl (hb hby d6_24) ?_
        show own_S p e below T114 m 27 #[rv a1, iv p2, iv (-1 : Int32), .unset] [(.int (4096 : Int32)), (.int (3 : Int32))] _
        refine XS.icmpYes X114.here hx rfl (pc0 := 27) (pc' := 42) rfl (hb hby d6_27) rfl (feq (by decide : ¬ ((3 : Int32) = (4096 : Int32)))).2 (by decide) (by decide) ?_
        refine XS.iloadN X114.here hx rfl (hb hby d6_42) rfl ?_
        refine XS.ineg X114.here hx rfl (hb hby d6_43) rfl ?_
        show own_S p e below T114 m 44 #[rv a1, iv p2, iv (-1 : Int32), .unset] [(.int (1 : Int32))] _
        refine XS.iconst X114.here hx rfl (hb hby d6_44) ?_
        refine XS.isub X114.here hx rfl (hb hby d6_45) rfl ?_
        refine XS.istoreN X114.here hx rfl (hb hby d6_46) rfl (l' := #[rv a1, iv p2, iv (-1 : Int32), iv (0 : Int32)]) rfl ?_
        show own_S p e below T114 m 47 #[rv a1, iv p2, iv (-1 : Int32), iv (0 : Int32)] [] _
        refine XS.aloadN X114.here hx rfl (hb hby d6_47) rfl rfl ?_
        refine st115 _ ?_
        refine XS.aloadN X115.here hx rfl (hb hby d6_51) rfl rfl ?_
        show own_S p e below T115 m 52 #[rv a1, iv p2, iv (-1 : Int32), iv (0 : Int32)] [(.ref a1), (.int (3 : Int32))] _
        refine st116 _ ?_
        refine X116.arraylength hx (by rw [e116]; exact Ar117.1) (State.isArrayOf_alike hZ.alike Ar117.2.1) (g := (mkF m 55 #[rv a1, iv p2, iv (-1 : Int32), iv (0 : Int32)] [(.ref t), (.int (3 : Int32))])) rfl rfl (hb hby d6_55) _ ?_
        rw [len_of S117 M117]
        refine XS.icmpYes X116.here hx rfl (pc0 := 56) (pc' := 83) rfl (hb hby d6_56) rfl (feq (by decide : ¬ ((3 : Int32) = (4 : Int32)))).2 (by decide) (by decide) ?_
        show own_S p e below T116 m 83 #[rv a1, iv p2, iv (-1 : Int32), iv (0 : Int32)] [] _
        refine XS.aloadN X116.here hx rfl (hb hby d6_83) rfl rfl ?_
        refine st118 _ ?_
        refine XS.iloadN X118.here hx rfl (hb hby d6_87) rfl ?_
        show own_S p e below T118 m 88 #[rv a1, iv p2, iv (-1 : Int32), iv (0 : Int32)] [(.int (0 : Int32)), (.ref t)] _
        refine XS.aloadN X118.here hx rfl (hb hby d6_88) rfl rfl ?_
        refine st119 _ ?_
        refine XS.iloadN X119.here hx rfl (hb hby d6_92) rfl ?_
        show own_S p e below T119 m 93 #[rv a1, iv p2, iv (-1 : Int32), iv (0 : Int32)] [(.int (0 : Int32)), (.ref t), (.int (0 : Int32)), (.ref t)] _
        refine XS.iconst X119.here hx rfl (hb hby d6_93) ?_
        refine XS.iadd X119.here hx rfl (hb hby d6_94) rfl ?_
        refine XS.aloadN X119.here hx rfl (hb hby d6_95) rfl rfl ?_
        show own_S p e below T119 m 96 #[rv a1, iv p2, iv (-1 : Int32), iv (0 : Int32)] [(.ref a1), (.int (1 : Int32)), (.ref t), (.int (0 : Int32)), (.ref t)] _
        refine st120 _ ?_
        refine XS.iloadN X120.here hx rfl (hb hby d6_99) rfl ?_
        refine XS.isub X120.here hx rfl (hb hby d6_100) rfl ?_
        show own_S p e below T120 m 101 #[rv a1, iv p2, iv (-1 : Int32), iv (0 : Int32)] [(.int (3 : Int32)), (.int (1 : Int32)), (.ref t), (.int (0 : Int32)), (.ref t)] _
        refine st121 _ ?_
        refine XS.aloadN X121.here hx rfl (hb hby d6_104) rfl rfl ?_
        refine st123 _ ?_
        show own_S p e below T123 m 108 #[rv a1, iv p2, iv (-1 : Int32), iv (0 : Int32)] [(.ref t)] _
        refine XS.iloadN X123.here hx rfl (hb hby d6_108) rfl ?_
        refine XS.iloadN X123.here hx rfl (hb hby d6_109) rfl ?_
        refine st124 _ ?_
        show own_S p e below T124 m 111 #[rv a1, iv p2, iv (-1 : Int32), iv (0 : Int32)] [] _
        refine XS.aloadN X124.here hx rfl (hb hby d6_111) rfl rfl ?_
        refine XS.dup X124.here hx rfl (hb hby d6_112) rfl rfl ?_
        refine st126 _ ?_
        show own_S p e below T126 m 116 #[rv a1, iv p2, iv (-1 : Int32), iv (0 : Int32)] [(.int (3 : Int32)), (.ref a1)] _
        refine XS.iconst X126.here hx rfl (hb hby d6_116) ?_
        refine XS.iadd X126.here hx rfl (hb hby d6_117) rfl ?_
        refine st128 _ ?_
        show own_S p e below T128 m 121 #[rv a1, iv p2, iv (-1 : Int32), iv (0 : Int32)] [] _
        refine XS.aloadN X128.here hx rfl (hb hby d6_121) rfl rfl ?_
        exact k)
      obtain ⟨fs, hr, hrun, hended, hW, hsame⟩ := X128.leave (v := some (.ref a1)) (fun h => by rw [Bd.returns] at h; cases h)
      refine ⟨_, _, pre129 _ ?_, hrun, hended, _, _, rfl, ?_, ⟨_, rfl⟩, hW, hsame.mono (by decide) (by decide)⟩
      · show own_S p e below T128 m 122 #[rv a1, iv p2, iv (-1 : Int32), iv (0 : Int32)] [(.ref a1)] _
        exact retOut X128 hx (t := (.object "com/example/bitstrata/bitstrata/Container")) Bd.returns rfl (Or.inr (Or.inr (Or.inr (Or.inr ⟨rfl, rfl, rfl⟩)))) (hb hby d6_122) hr
      · show QAdd Z a1 p2 t k [x0, x1, x2] h0 n0 _ T128.heap _
        rw [e128]
        have En_130 := (En_127.wr W128)
        have Fn_131 := ((Fn_122.other W124 (Or.inl (Ne.symm hne))).other W128 (Or.inr (slot_ne (Or.inl (hw _ (List.mem_of_getElem? (i := 11) rfl))) (Or.inl (hw _ (List.mem_of_getElem? (i := 13) rfl))) (by decide) (t := (.array .char)) (t' := .int) (by decide) (by decide))))
        have Vn_132 := (V124.other W128 hne)
        rw [hk] at Vn_132
        refine ⟨[p2, x0, x1, x2], t, _, rfl, N128, ((((Keep.refl h0 [a1, t]).trans K121 (allS (Or.inl (List.mem_of_getElem? (i := 1) rfl)) all0)).wr W124 (Or.inl (List.mem_of_getElem? (i := 1) rfl))).wr W128 (Or.inl (List.mem_of_getElem? (i := 0) rfl))), En_130, Fn_131, Fw128, Vn_132, g_t, hne, Or.inl rfl, Nat.le_of_ble_eq_true rfl, Nat.le_of_ble_eq_true rfl, ?_, ?_, ?_⟩
        · exact ⟨(by first | assumption | exact own_tr (by assumption) (by assumption)), (by first | assumption | exact own_tr (by assumption) (by assumption)), (by first | assumption | exact own_tr (by assumption) (by assumption)), trivial⟩
        · intro x hx; simp only [List.mem_cons, List.not_mem_nil, or_false] at hx; rcases hx with rfl | rfl | rfl | rfl <;> first | exact hk | exact hch _ (by simp)
        · intro x; simp only [List.mem_cons, List.not_mem_nil, or_false]; try (constructor; (intro h; rcases h with h | h | h | h <;> simp [h]); (intro h; rcases h with (h | h | h) | h <;> simp [h]))
    ·  -- case
      obtain ⟨T133, X133, e133, st133⟩ := getF X109 hx hZ hown (host := "") (Or.inl (hw _ (List.mem_of_getElem? (i := 12) rfl))) Via.refl e109 F_c' (g := (mkF m 21 #[rv a1, iv p2, iv (-2 : Int32), .unset] [(.ref a1)])) rfl rfl (hb hby d6_21)
      obtain ⟨T134, X134, e134, st134⟩ := getF X133 hx hZ hown (host := "") (Or.inl (hw _ (List.mem_of_getElem? (i := 12) rfl))) Via.refl e133 F_c' (g := (mkF m 48 #[rv a1, iv p2, iv (-2 : Int32), iv (1 : Int32)] [(.ref a1)])) rfl rfl (hb hby d6_48)
      obtain ⟨T135, X135, e135, st135⟩ := getF X134 hx hZ hown (host := "") (Or.inl (hw _ (List.mem_of_getElem? (i := 10) rfl))) Via.refl e134 F_v (g := (mkF m 52 #[rv a1, iv p2, iv (-2 : Int32), iv (1 : Int32)] [(.ref a1), (.int (3 : Int32))])) rfl rfl (hb hby d6_52)
      obtain ⟨cl136, Ar136, q136, S136, M136, -, -⟩ := id V_t'
      obtain ⟨T137, X137, e137, st137⟩ := getF X135 hx hZ hown (host := "") (Or.inl (hw _ (List.mem_of_getElem? (i := 10) rfl))) Via.refl e135 F_v (g := (mkF m 84 #[rv a1, iv p2, iv (-2 : Int32), iv (1 : Int32)] [(.ref a1)])) rfl rfl (hb hby d6_84)
      obtain ⟨T138, X138, e138, st138⟩ := getF X137 hx hZ hown (host := "") (Or.inl (hw _ (List.mem_of_getElem? (i := 10) rfl))) Via.refl e137 F_v (g := (mkF m 89 #[rv a1, iv p2, iv (-2 : Int32), iv (1 : Int32)] [(.ref a1), (.int (1 : Int32)), (.ref t)])) rfl rfl (hb hby d6_89)
      obtain ⟨T139, X139, e139, st139⟩ := getF X138 hx hZ hown (host := "") (Or.inl (hw _ (List.mem_of_getElem? (i := 12) rfl))) Via.refl e138 F_c' (g := (mkF m 96 #[rv a1, iv p2, iv (-2 : Int32), iv (1 : Int32)] [(.ref a1), (.int (2 : Int32)), (.ref t), (.int (1 : Int32)), (.ref t)])) rfl rfl (hb hby d6_96)
      obtain ⟨T140, h140, L140, X140, e140, N140, K140, Vc140, st140⟩ := cpA X139 hx hZ hown (hw _ (List.mem_of_getElem? (i := 48) rfl)) (hw _ (List.mem_of_getElem? (i := 51) rfl)) (hw _ (List.mem_of_getElem? (i := 49) rfl)) (hw _ (List.mem_of_getElem? (i := 50) rfl)) e139 (us := [(.int x1), (.int x2)]) (sp := (1 : Int32)) (dp := (2 : Int32)) (nn := (2 : Int32)) V_t' V_t' (Or.inl ⟨rfl, rfl⟩) (by decide) (by decide) (by decide) (by decide) (by decide) rfl (Nat.le_of_ble_eq_true rfl) N109 g_t (g := (mkF m 101 #[rv a1, iv p2, iv (-2 : Int32), iv (1 : Int32)] [(.int (2 : Int32)), (.int (2 : Int32)), (.ref t), (.int (1 : Int32)), (.ref t)])) rfl (by rw [hml]; rfl) rfl (hb hby d6_101) (by decide) (W := 0) (by show 2 * 0 + _ ≤ _; exact Nat.le_of_eq rfl) (by decide)
      have V140 : Arv Z h140 t k .char (4 : Int32) [(.int x0), (.int x1), (.int x1), (.int x2)] (.int (0 : Int32)) := Vc140
      have Fn_141 := (F_v.keep K140 (ninS (Ne.symm hne) nin0))
      obtain ⟨T142, X142, e142, st142⟩ := getF X140 hx hZ hown (host := "") (Or.inl (hw _ (List.mem_of_getElem? (i := 10) rfl))) Via.refl e140 Fn_141 (g := (mkF m 105 #[rv a1, iv p2, iv (-2 : Int32), iv (1 : Int32)] [(.ref a1)])) rfl rfl (hb hby d6_105)
      obtain ⟨cl143, Ar143, q143, S143, M143, H143, G143⟩ := id V140
      have hin143 : ¬ ((1 : Int32) < 0 ∨ cl143.slots.size ≤ ((1 : Int32)).toNatClampNeg) := inb_of S143 ⟨by decide, by decide⟩
      obtain ⟨T143, h143, X143, e143, W143, st143⟩ := stC X142 hx hZ e142 Ar143 (j := (1 : Int32)) hin143 (g := (mkF m 110 #[rv a1, iv p2, iv (-2 : Int32), iv (1 : Int32)] [(.int p2), (.int (1 : Int32)), (.ref t)])) rfl rfl (hb hby d6_110)
      have V143 : Arv Z h143 t k .char (4 : Int32) [(.int x0), (.int (nar .char p2)), (.int x1), (.int x2)] (.int (0 : Int32)) := Arv.set Ar143 q143 S143 M143 H143 G143 (fits_nar_char _) W143 1 rfl (Nat.le_of_ble_eq_true rfl)
      have N143 := Fr.snoc X143 N140 g_t
      have Fn_144 := ((F_c'.keep K140 (ninS (Ne.symm hne) nin0)).other W143 (Or.inl (Ne.symm hne)))
      obtain ⟨T145, X145, e145, st145⟩ := getF X143 hx hZ hown (host := "") (Or.inl (hw _ (List.mem_of_getElem? (i := 12) rfl))) Via.refl e143 Fn_144 (g := (mkF m 113 #[rv a1, iv p2, iv (-2 : Int32), iv (1 : Int32)] [(.ref a1), (.ref a1)])) rfl rfl (hb hby d6_113)
      have En_146 := ((E_a1.keep K140).wr W143)
      obtain ⟨T147, h147, X147, e147, W147, st147⟩ := putF X145 hx hZ hown (host := "") (Or.inl (hw _ (List.mem_of_getElem? (i := 12) rfl))) Via.refl e145 Fn_144 En_146 (Or.inl (hw _ (List.mem_of_getElem? (i := 13) rfl))) (hw _ (List.mem_of_getElem? (i := 1) rfl)) (ty := .int) (by decide) rfl rfl (g := (mkF m 118 #[rv a1, iv p2, iv (-2 : Int32), iv (1 : Int32)] [(.int (4 : Int32)), (.ref a1)])) rfl rfl (hb hby d6_118)
      have Fw147 := Fn_144.same W147
      have N147 := Fr.snoc X147 N143 g_a1
      have pre148 : ∀ tg, own_S p e below T147 m 122 #[rv a1, iv p2, iv (-2 : Int32), iv (1 : Int32)] [(.ref a1)] tg → Steps p.tables e below (s₁.setTop (entryFrame m #[(.ref a1), (.int p2)] 4)) tg := fun tg k => pre110 tg (by
        show own_S p e below T109 m 13 #[rv a1, iv p2, .unset, .unset] [(.int (-2 : Int32))] _
        refine XS.istoreN X109.here hx rfl (hb hby d6_13) rfl (l' := #[rv a1, iv p2, iv (-2 : Int32), .unset]) rfl ?_
        refine XS.iloadN X109.here hx rfl (hb hby d6_14) rfl ?_
        refine XS.ifYes X109.here hx rfl (pc0 := 15) (pc' := 20) rfl (hb hby d6_15) rfl ((if0 _ _).trans (tlt (by decide : (-2 : Int32) < (0 : Int32))).1) (by decide) (by decide) ?_
        show own_S p e below T109 m 20 #[rv a1, iv p2, iv (-2 : Int32), .unset] [] _
        refine XS.aloadN X109.here hx rfl (hb hby d6_20) rfl rfl ?_
        refine st133 _ ?_
        refine XS.sipush X133.here hx rfl (hb hby d6_24) ?_
        show own_S p e below T133 m 27 #[rv a1, iv p2, iv (-2 : Int32), .unset] [(.int (4096 : Int32)), (.int (3 : Int32))] _
        refine XS.icmpYes X133.here hx rfl (pc0 := 27) (pc' := 42) rfl (hb hby d6_27) rfl (feq (by decide : ¬ ((3 : Int32) = (4096 : Int32)))).2 (by decide) (by decide) ?_
        refine XS.iloadN X133.here hx rfl (hb hby d6_42) rfl ?_
        refine XS.ineg X133.here hx rfl (hb hby d6_43) rfl ?_
        show own_S p e below T133 m 44 #[rv a1, iv p2, iv (-2 : Int32), .unset] [(.int (2 : Int32))] _
        refine XS.iconst X133.here hx rfl (hb hby d6_44) ?_
        refine XS.isub X133.here hx rfl (hb hby d6_45) rfl ?_
        refine XS.istoreN X133.here hx rfl (hb hby d6_46) rfl (l' := #[rv a1, iv p2, iv (-2 : Int32), iv (1 : Int32)]) rfl ?_
        show own_S p e below T133 m 47 #[rv a1, iv p2, iv (-2 : Int32), iv (1 : Int32)] [] _
        refine XS.aloadN X133.here hx rfl (hb hby d6_47) rfl rfl ?_
        refine st134 _ ?_
        refine XS.aloadN X134.here hx rfl (hb hby d6_51) rfl rfl ?_
        show own_S p e below T134 m 52 #[rv a1, iv p2, iv (-2 : Int32), iv (1 : Int32)] [(.ref a1), (.int (3 : Int32))] _
        refine st135 _ ?_
        refine X135.arraylength hx (by rw [e135]; exact Ar136.1) (State.isArrayOf_alike hZ.alike Ar136.2.1) (g := (mkF m 55 #[rv a1, iv p2, iv (-2 : Int32), iv (1 : Int32)] [(.ref t), (.int (3 : Int32))])) rfl rfl (hb hby d6_55) _ ?_
        rw [len_of S136 M136]
        refine XS.icmpYes X135.here hx rfl (pc0 := 56) (pc' := 83) rfl (hb hby d6_56) rfl (feq (by decide : ¬ ((3 : Int32) = (4 : Int32)))).2 (by decide) (by decide) ?_
        show own_S p e below T135 m 83 #[rv a1, iv p2, iv (-2 : Int32), iv (1 : Int32)] [] _
        refine XS.aloadN X135.here hx rfl (hb hby d6_83) rfl rfl ?_
        refine st137 _ ?_
        refine XS.iloadN X137.here hx rfl (hb hby d6_87) rfl ?_
        show own_S p e below T137 m 88 #[rv a1, iv p2, iv (-2 : Int32), iv (1 : Int32)] [(.int (1 : Int32)), (.ref t)] _
        refine XS.aloadN X137.here hx rfl (hb hby d6_88) rfl rfl ?_
        refine st138 _ ?_
        refine XS.iloadN X138.here hx rfl (hb hby d6_92) rfl ?_
        show own_S p e below T138 m 93 #[rv a1, iv p2, iv (-2 : Int32), iv (1 : Int32)] [(.int (1 : Int32)), (.ref t), (.int (1 : Int32)), (.ref t)] _
        refine XS.iconst X138.here hx rfl (hb hby d6_93) ?_
        refine XS.iadd X138.here hx rfl (hb hby d6_94) rfl ?_
        refine XS.aloadN X138.here hx rfl (hb hby d6_95) rfl rfl ?_
        show own_S p e below T138 m 96 #[rv a1, iv p2, iv (-2 : Int32), iv (1 : Int32)] [(.ref a1), (.int (2 : Int32)), (.ref t), (.int (1 : Int32)), (.ref t)] _
        refine st139 _ ?_
        refine XS.iloadN X139.here hx rfl (hb hby d6_99) rfl ?_
        refine XS.isub X139.here hx rfl (hb hby d6_100) rfl ?_
        show own_S p e below T139 m 101 #[rv a1, iv p2, iv (-2 : Int32), iv (1 : Int32)] [(.int (2 : Int32)), (.int (2 : Int32)), (.ref t), (.int (1 : Int32)), (.ref t)] _
        refine st140 _ ?_
        refine XS.aloadN X140.here hx rfl (hb hby d6_104) rfl rfl ?_
        refine st142 _ ?_
        show own_S p e below T142 m 108 #[rv a1, iv p2, iv (-2 : Int32), iv (1 : Int32)] [(.ref t)] _
        refine XS.iloadN X142.here hx rfl (hb hby d6_108) rfl ?_
        refine XS.iloadN X142.here hx rfl (hb hby d6_109) rfl ?_
        refine st143 _ ?_
        show own_S p e below T143 m 111 #[rv a1, iv p2, iv (-2 : Int32), iv (1 : Int32)] [] _
        refine XS.aloadN X143.here hx rfl (hb hby d6_111) rfl rfl ?_
        refine XS.dup X143.here hx rfl (hb hby d6_112) rfl rfl ?_
        refine st145 _ ?_
        show own_S p e below T145 m 116 #[rv a1, iv p2, iv (-2 : Int32), iv (1 : Int32)] [(.int (3 : Int32)), (.ref a1)] _
        refine XS.iconst X145.here hx rfl (hb hby d6_116) ?_
        refine XS.iadd X145.here hx rfl (hb hby d6_117) rfl ?_
        refine st147 _ ?_
        show own_S p e below T147 m 121 #[rv a1, iv p2, iv (-2 : Int32), iv (1 : Int32)] [] _
        refine XS.aloadN X147.here hx rfl (hb hby d6_121) rfl rfl ?_
        exact k)
      obtain ⟨fs, hr, hrun, hended, hW, hsame⟩ := X147.leave (v := some (.ref a1)) (fun h => by rw [Bd.returns] at h; cases h)
      refine ⟨_, _, pre148 _ ?_, hrun, hended, _, _, rfl, ?_, ⟨_, rfl⟩, hW, hsame.mono (by decide) (by decide)⟩
      · show own_S p e below T147 m 122 #[rv a1, iv p2, iv (-2 : Int32), iv (1 : Int32)] [(.ref a1)] _
        exact retOut X147 hx (t := (.object "com/example/bitstrata/bitstrata/Container")) Bd.returns rfl (Or.inr (Or.inr (Or.inr (Or.inr ⟨rfl, rfl, rfl⟩)))) (hb hby d6_122) hr
      · show QAdd Z a1 p2 t k [x0, x1, x2] h0 n0 _ T147.heap _
        rw [e147]
        have En_149 := (En_146.wr W147)
        have Fn_150 := ((Fn_141.other W143 (Or.inl (Ne.symm hne))).other W147 (Or.inr (slot_ne (Or.inl (hw _ (List.mem_of_getElem? (i := 11) rfl))) (Or.inl (hw _ (List.mem_of_getElem? (i := 13) rfl))) (by decide) (t := (.array .char)) (t' := .int) (by decide) (by decide))))
        have Vn_151 := (V143.other W147 hne)
        rw [hk] at Vn_151
        refine ⟨[x0, p2, x1, x2], t, _, rfl, N147, ((((Keep.refl h0 [a1, t]).trans K140 (allS (Or.inl (List.mem_of_getElem? (i := 1) rfl)) all0)).wr W143 (Or.inl (List.mem_of_getElem? (i := 1) rfl))).wr W147 (Or.inl (List.mem_of_getElem? (i := 0) rfl))), En_149, Fn_150, Fw147, Vn_151, g_t, hne, Or.inl rfl, Nat.le_of_ble_eq_true rfl, Nat.le_of_ble_eq_true rfl, ?_, ?_, ?_⟩
        · exact ⟨(by first | assumption | exact own_tr (by assumption) (by assumption)), (by first | assumption | exact own_tr (by assumption) (by assumption)), (by first | assumption | exact own_tr (by assumption) (by assumption)), trivial⟩
        · intro x hx; simp only [List.mem_cons, List.not_mem_nil, or_false] at hx; rcases hx with rfl | rfl | rfl | rfl <;> first | exact hk | exact hch _ (by simp)
        · intro x; simp only [List.mem_cons, List.not_mem_nil, or_false]; try (constructor; (intro h; rcases h with h | h | h | h <;> simp [h]); (intro h; rcases h with (h | h | h) | h <;> simp [h]))
    ·  -- case
      obtain ⟨T152, X152, e152, st152⟩ := getF X109 hx hZ hown (host := "") (Or.inl (hw _ (List.mem_of_getElem? (i := 12) rfl))) Via.refl e109 F_c' (g := (mkF m 21 #[rv a1, iv p2, iv (-3 : Int32), .unset] [(.ref a1)])) rfl rfl (hb hby d6_21)
      obtain ⟨T153, X153, e153, st153⟩ := getF X152 hx hZ hown (host := "") (Or.inl (hw _ (List.mem_of_getElem? (i := 12) rfl))) Via.refl e152 F_c' (g := (mkF m 48 #[rv a1, iv p2, iv (-3 : Int32), iv (2 : Int32)] [(.ref a1)])) rfl rfl (hb hby d6_48)
      obtain ⟨T154, X154, e154, st154⟩ := getF X153 hx hZ hown (host := "") (Or.inl (hw _ (List.mem_of_getElem? (i := 10) rfl))) Via.refl e153 F_v (g := (mkF m 52 #[rv a1, iv p2, iv (-3 : Int32), iv (2 : Int32)] [(.ref a1), (.int (3 : Int32))])) rfl rfl (hb hby d6_52)
      obtain ⟨cl155, Ar155, q155, S155, M155, -, -⟩ := id V_t'
      obtain ⟨T156, X156, e156, st156⟩ := getF X154 hx hZ hown (host := "") (Or.inl (hw _ (List.mem_of_getElem? (i := 10) rfl))) Via.refl e154 F_v (g := (mkF m 84 #[rv a1, iv p2, iv (-3 : Int32), iv (2 : Int32)] [(.ref a1)])) rfl rfl (hb hby d6_84)
      obtain ⟨T157, X157, e157, st157⟩ := getF X156 hx hZ hown (host := "") (Or.inl (hw _ (List.mem_of_getElem? (i := 10) rfl))) Via.refl e156 F_v (g := (mkF m 89 #[rv a1, iv p2, iv (-3 : Int32), iv (2 : Int32)] [(.ref a1), (.int (2 : Int32)), (.ref t)])) rfl rfl (hb hby d6_89)
      obtain ⟨T158, X158, e158, st158⟩ := getF X157 hx hZ hown (host := "") (Or.inl (hw _ (List.mem_of_getElem? (i := 12) rfl))) Via.refl e157 F_c' (g := (mkF m 96 #[rv a1, iv p2, iv (-3 : Int32), iv (2 : Int32)] [(.ref a1), (.int (3 : Int32)), (.ref t), (.int (2 : Int32)), (.ref t)])) rfl rfl (hb hby d6_96)
      obtain ⟨T159, h159, L159, X159, e159, N159, K159, Vc159, st159⟩ := cpA X158 hx hZ hown (hw _ (List.mem_of_getElem? (i := 48) rfl)) (hw _ (List.mem_of_getElem? (i := 51) rfl)) (hw _ (List.mem_of_getElem? (i := 49) rfl)) (hw _ (List.mem_of_getElem? (i := 50) rfl)) e158 (us := [(.int x2)]) (sp := (2 : Int32)) (dp := (3 : Int32)) (nn := (1 : Int32)) V_t' V_t' (Or.inl ⟨rfl, rfl⟩) (by decide) (by decide) (by decide) (by decide) (by decide) rfl (Nat.le_of_ble_eq_true rfl) N109 g_t (g := (mkF m 101 #[rv a1, iv p2, iv (-3 : Int32), iv (2 : Int32)] [(.int (1 : Int32)), (.int (3 : Int32)), (.ref t), (.int (2 : Int32)), (.ref t)])) rfl (by rw [hml]; rfl) rfl (hb hby d6_101) (by decide) (W := 0) (by show 2 * 0 + _ ≤ _; exact Nat.le_of_eq rfl) (by decide)
      have V159 : Arv Z h159 t k .char (4 : Int32) [(.int x0), (.int x1), (.int x2), (.int x2)] (.int (0 : Int32)) := Vc159
      have Fn_160 := (F_v.keep K159 (ninS (Ne.symm hne) nin0))
      obtain ⟨T161, X161, e161, st161⟩ := getF X159 hx hZ hown (host := "") (Or.inl (hw _ (List.mem_of_getElem? (i := 10) rfl))) Via.refl e159 Fn_160 (g := (mkF m 105 #[rv a1, iv p2, iv (-3 : Int32), iv (2 : Int32)] [(.ref a1)])) rfl rfl (hb hby d6_105)
      obtain ⟨cl162, Ar162, q162, S162, M162, H162, G162⟩ := id V159
      have hin162 : ¬ ((2 : Int32) < 0 ∨ cl162.slots.size ≤ ((2 : Int32)).toNatClampNeg) := inb_of S162 ⟨by decide, by decide⟩
      obtain ⟨T162, h162, X162, e162, W162, st162⟩ := stC X161 hx hZ e161 Ar162 (j := (2 : Int32)) hin162 (g := (mkF m 110 #[rv a1, iv p2, iv (-3 : Int32), iv (2 : Int32)] [(.int p2), (.int (2 : Int32)), (.ref t)])) rfl rfl (hb hby d6_110)
      have V162 : Arv Z h162 t k .char (4 : Int32) [(.int x0), (.int x1), (.int (nar .char p2)), (.int x2)] (.int (0 : Int32)) := Arv.set Ar162 q162 S162 M162 H162 G162 (fits_nar_char _) W162 2 rfl (Nat.le_of_ble_eq_true rfl)
      have N162 := Fr.snoc X162 N159 g_t
      have Fn_163 := ((F_c'.keep K159 (ninS (Ne.symm hne) nin0)).other W162 (Or.inl (Ne.symm hne)))
      obtain ⟨T164, X164, e164, st164⟩ := getF X162 hx hZ hown (host := "") (Or.inl (hw _ (List.mem_of_getElem? (i := 12) rfl))) Via.refl e162 Fn_163 (g := (mkF m 113 #[rv a1, iv p2, iv (-3 : Int32), iv (2 : Int32)] [(.ref a1), (.ref a1)])) rfl rfl (hb hby d6_113)
      have En_165 := ((E_a1.keep K159).wr W162)
      obtain ⟨T166, h166, X166, e166, W166, st166⟩ := putF X164 hx hZ hown (host := "") (Or.inl (hw _ (List.mem_of_getElem? (i := 12) rfl))) Via.refl e164 Fn_163 En_165 (Or.inl (hw _ (List.mem_of_getElem? (i := 13) rfl))) (hw _ (List.mem_of_getElem? (i := 1) rfl)) (ty := .int) (by decide) rfl rfl (g := (mkF m 118 #[rv a1, iv p2, iv (-3 : Int32), iv (2 : Int32)] [(.int (4 : Int32)), (.ref a1)])) rfl rfl (hb hby d6_118)
      have Fw166 := Fn_163.same W166
      have N166 := Fr.snoc X166 N162 g_a1
      have pre167 : ∀ tg, own_S p e below T166 m 122 #[rv a1, iv p2, iv (-3 : Int32), iv (2 : Int32)] [(.ref a1)] tg → Steps p.tables e below (s₁.setTop (entryFrame m #[(.ref a1), (.int p2)] 4)) tg := fun tg k => pre110 tg (by
        show own_S p e below T109 m 13 #[rv a1, iv p2, .unset, .unset] [(.int (-3 : Int32))] _
        refine XS.istoreN X109.here hx rfl (hb hby d6_13) rfl (l' := #[rv a1, iv p2, iv (-3 : Int32), .unset]) rfl ?_
        refine XS.iloadN X109.here hx rfl (hb hby d6_14) rfl ?_
        refine XS.ifYes X109.here hx rfl (pc0 := 15) (pc' := 20) rfl (hb hby d6_15) rfl ((if0 _ _).trans (tlt (by decide : (-3 : Int32) < (0 : Int32))).1) (by decide) (by decide) ?_
        show own_S p e below T109 m 20 #[rv a1, iv p2, iv (-3 : Int32), .unset] [] _
        refine XS.aloadN X109.here hx rfl (hb hby d6_20) rfl rfl ?_
        refine st152 _ ?_
        refine XS.sipush X152.here hx rfl (hb hby d6_24) ?_
        show own_S p e below T152 m 27 #[rv a1, iv p2, iv (-3 : Int32), .unset] [(.int (4096 : Int32)), (.int (3 : Int32))] _
        refine XS.icmpYes X152.here hx rfl (pc0 := 27) (pc' := 42) rfl (hb hby d6_27) rfl (feq (by decide : ¬ ((3 : Int32) = (4096 : Int32)))).2 (by decide) (by decide) ?_
        refine XS.iloadN X152.here hx rfl (hb hby d6_42) rfl ?_
        refine XS.ineg X152.here hx rfl (hb hby d6_43) rfl ?_
        show own_S p e below T152 m 44 #[rv a1, iv p2, iv (-3 : Int32), .unset] [(.int (3 : Int32))] _
        refine XS.iconst X152.here hx rfl (hb hby d6_44) ?_
        refine XS.isub X152.here hx rfl (hb hby d6_45) rfl ?_
        refine XS.istoreN X152.here hx rfl (hb hby d6_46) rfl (l' := #[rv a1, iv p2, iv (-3 : Int32), iv (2 : Int32)]) rfl ?_
        show own_S p e below T152 m 47 #[rv a1, iv p2, iv (-3 : Int32), iv (2 : Int32)] [] _
        refine XS.aloadN X152.here hx rfl (hb hby d6_47) rfl rfl ?_
        refine st153 _ ?_
        refine XS.aloadN X153.here hx rfl (hb hby d6_51) rfl rfl ?_
        show own_S p e below T153 m 52 #[rv a1, iv p2, iv (-3 : Int32), iv (2 : Int32)] [(.ref a1), (.int (3 : Int32))] _
        refine st154 _ ?_
        refine X154.arraylength hx (by rw [e154]; exact Ar155.1) (State.isArrayOf_alike hZ.alike Ar155.2.1) (g := (mkF m 55 #[rv a1, iv p2, iv (-3 : Int32), iv (2 : Int32)] [(.ref t), (.int (3 : Int32))])) rfl rfl (hb hby d6_55) _ ?_
        rw [len_of S155 M155]
        refine XS.icmpYes X154.here hx rfl (pc0 := 56) (pc' := 83) rfl (hb hby d6_56) rfl (feq (by decide : ¬ ((3 : Int32) = (4 : Int32)))).2 (by decide) (by decide) ?_
        show own_S p e below T154 m 83 #[rv a1, iv p2, iv (-3 : Int32), iv (2 : Int32)] [] _
        refine XS.aloadN X154.here hx rfl (hb hby d6_83) rfl rfl ?_
        refine st156 _ ?_
        refine XS.iloadN X156.here hx rfl (hb hby d6_87) rfl ?_
        show own_S p e below T156 m 88 #[rv a1, iv p2, iv (-3 : Int32), iv (2 : Int32)] [(.int (2 : Int32)), (.ref t)] _
        refine XS.aloadN X156.here hx rfl (hb hby d6_88) rfl rfl ?_
        refine st157 _ ?_
        refine XS.iloadN X157.here hx rfl (hb hby d6_92) rfl ?_
        show own_S p e below T157 m 93 #[rv a1, iv p2, iv (-3 : Int32), iv (2 : Int32)] [(.int (2 : Int32)), (.ref t), (.int (2 : Int32)), (.ref t)] _
        refine XS.iconst X157.here hx rfl (hb hby d6_93) ?_
        refine XS.iadd X157.here hx rfl (hb hby d6_94) rfl ?_
        refine XS.aloadN X157.here hx rfl (hb hby d6_95) rfl rfl ?_
        show own_S p e below T157 m 96 #[rv a1, iv p2, iv (-3 : Int32), iv (2 : Int32)] [(.ref a1), (.int (3 : Int32)), (.ref t), (.int (2 : Int32)), (.ref t)] _
        refine st158 _ ?_
        refine XS.iloadN X158.here hx rfl (hb hby d6_99) rfl ?_
        refine XS.isub X158.here hx rfl (hb hby d6_100) rfl ?_
        show own_S p e below T158 m 101 #[rv a1, iv p2, iv (-3 : Int32), iv (2 : Int32)] [(.int (1 : Int32)), (.int (3 : Int32)), (.ref t), (.int (2 : Int32)), (.ref t)] _
        refine st159 _ ?_
        refine XS.aloadN X159.here hx rfl (hb hby d6_104) rfl rfl ?_
        refine st161 _ ?_
        show own_S p e below T161 m 108 #[rv a1, iv p2, iv (-3 : Int32), iv (2 : Int32)] [(.ref t)] _
        refine XS.iloadN X161.here hx rfl (hb hby d6_108) rfl ?_
        refine XS.iloadN X161.here hx rfl (hb hby d6_109) rfl ?_
        refine st162 _ ?_
        show own_S p e below T162 m 111 #[rv a1, iv p2, iv (-3 : Int32), iv (2 : Int32)] [] _
        refine XS.aloadN X162.here hx rfl (hb hby d6_111) rfl rfl ?_
        refine XS.dup X162.here hx rfl (hb hby d6_112) rfl rfl ?_
        refine st164 _ ?_
        show own_S p e below T164 m 116 #[rv a1, iv p2, iv (-3 : Int32), iv (2 : Int32)] [(.int (3 : Int32)), (.ref a1)] _
        refine XS.iconst X164.here hx rfl (hb hby d6_116) ?_
        refine XS.iadd X164.here hx rfl (hb hby d6_117) rfl ?_
        refine st166 _ ?_
        show own_S p e below T166 m 121 #[rv a1, iv p2, iv (-3 : Int32), iv (2 : Int32)] [] _
        refine XS.aloadN X166.here hx rfl (hb hby d6_121) rfl rfl ?_
        exact k)
      obtain ⟨fs, hr, hrun, hended, hW, hsame⟩ := X166.leave (v := some (.ref a1)) (fun h => by rw [Bd.returns] at h; cases h)
      refine ⟨_, _, pre167 _ ?_, hrun, hended, _, _, rfl, ?_, ⟨_, rfl⟩, hW, hsame.mono (by decide) (by decide)⟩
      · show own_S p e below T166 m 122 #[rv a1, iv p2, iv (-3 : Int32), iv (2 : Int32)] [(.ref a1)] _
        exact retOut X166 hx (t := (.object "com/example/bitstrata/bitstrata/Container")) Bd.returns rfl (Or.inr (Or.inr (Or.inr (Or.inr ⟨rfl, rfl, rfl⟩)))) (hb hby d6_122) hr
      · show QAdd Z a1 p2 t k [x0, x1, x2] h0 n0 _ T166.heap _
        rw [e166]
        have En_168 := (En_165.wr W166)
        have Fn_169 := ((Fn_160.other W162 (Or.inl (Ne.symm hne))).other W166 (Or.inr (slot_ne (Or.inl (hw _ (List.mem_of_getElem? (i := 11) rfl))) (Or.inl (hw _ (List.mem_of_getElem? (i := 13) rfl))) (by decide) (t := (.array .char)) (t' := .int) (by decide) (by decide))))
        have Vn_170 := (V162.other W166 hne)
        rw [hk] at Vn_170
        refine ⟨[x0, x1, p2, x2], t, _, rfl, N166, ((((Keep.refl h0 [a1, t]).trans K159 (allS (Or.inl (List.mem_of_getElem? (i := 1) rfl)) all0)).wr W162 (Or.inl (List.mem_of_getElem? (i := 1) rfl))).wr W166 (Or.inl (List.mem_of_getElem? (i := 0) rfl))), En_168, Fn_169, Fw166, Vn_170, g_t, hne, Or.inl rfl, Nat.le_of_ble_eq_true rfl, Nat.le_of_ble_eq_true rfl, ?_, ?_, ?_⟩
        · exact ⟨(by first | assumption | exact own_tr (by assumption) (by assumption)), (by first | assumption | exact own_tr (by assumption) (by assumption)), (by first | assumption | exact own_tr (by assumption) (by assumption)), trivial⟩
        · intro x hx; simp only [List.mem_cons, List.not_mem_nil, or_false] at hx; rcases hx with rfl | rfl | rfl | rfl <;> first | exact hk | exact hch _ (by simp)
        · intro x; simp only [List.mem_cons, List.not_mem_nil, or_false]; try (constructor; (intro h; rcases h with h | h | h | h <;> simp [h]); (intro h; rcases h with (h | h | h) | h <;> simp [h]))
    ·  -- case
      obtain ⟨T171, X171, e171, st171⟩ := getF X109 hx hZ hown (host := "") (Or.inl (hw _ (List.mem_of_getElem? (i := 12) rfl))) Via.refl e109 F_c' (g := (mkF m 21 #[rv a1, iv p2, iv (-4 : Int32), .unset] [(.ref a1)])) rfl rfl (hb hby d6_21)
      obtain ⟨T172, X172, e172, st172⟩ := getF X171 hx hZ hown (host := "") (Or.inl (hw _ (List.mem_of_getElem? (i := 12) rfl))) Via.refl e171 F_c' (g := (mkF m 48 #[rv a1, iv p2, iv (-4 : Int32), iv (3 : Int32)] [(.ref a1)])) rfl rfl (hb hby d6_48)
      obtain ⟨T173, X173, e173, st173⟩ := getF X172 hx hZ hown (host := "") (Or.inl (hw _ (List.mem_of_getElem? (i := 10) rfl))) Via.refl e172 F_v (g := (mkF m 52 #[rv a1, iv p2, iv (-4 : Int32), iv (3 : Int32)] [(.ref a1), (.int (3 : Int32))])) rfl rfl (hb hby d6_52)
      obtain ⟨cl174, Ar174, q174, S174, M174, -, -⟩ := id V_t'
      obtain ⟨T175, X175, e175, st175⟩ := getF X173 hx hZ hown (host := "") (Or.inl (hw _ (List.mem_of_getElem? (i := 10) rfl))) Via.refl e173 F_v (g := (mkF m 84 #[rv a1, iv p2, iv (-4 : Int32), iv (3 : Int32)] [(.ref a1)])) rfl rfl (hb hby d6_84)
      obtain ⟨T176, X176, e176, st176⟩ := getF X175 hx hZ hown (host := "") (Or.inl (hw _ (List.mem_of_getElem? (i := 10) rfl))) Via.refl e175 F_v (g := (mkF m 89 #[rv a1, iv p2, iv (-4 : Int32), iv (3 : Int32)] [(.ref a1), (.int (3 : Int32)), (.ref t)])) rfl rfl (hb hby d6_89)
      obtain ⟨T177, X177, e177, st177⟩ := getF X176 hx hZ hown (host := "") (Or.inl (hw _ (List.mem_of_getElem? (i := 12) rfl))) Via.refl e176 F_c' (g := (mkF m 96 #[rv a1, iv p2, iv (-4 : Int32), iv (3 : Int32)] [(.ref a1), (.int (4 : Int32)), (.ref t), (.int (3 : Int32)), (.ref t)])) rfl rfl (hb hby d6_96)
      obtain ⟨T178, h178, L178, X178, e178, N178, K178, Vc178, st178⟩ := cpA X177 hx hZ hown (hw _ (List.mem_of_getElem? (i := 48) rfl)) (hw _ (List.mem_of_getElem? (i := 51) rfl)) (hw _ (List.mem_of_getElem? (i := 49) rfl)) (hw _ (List.mem_of_getElem? (i := 50) rfl)) e177 (us := []) (sp := (3 : Int32)) (dp := (4 : Int32)) (nn := (0 : Int32)) V_t' V_t' (Or.inl ⟨rfl, rfl⟩) (by decide) (by decide) (by decide) (by decide) (by decide) rfl (Nat.le_of_ble_eq_true rfl) N109 g_t (g := (mkF m 101 #[rv a1, iv p2, iv (-4 : Int32), iv (3 : Int32)] [(.int (0 : Int32)), (.int (4 : Int32)), (.ref t), (.int (3 : Int32)), (.ref t)])) rfl (by rw [hml]; rfl) rfl (hb hby d6_101) (by decide) (W := 0) (by show 2 * 0 + _ ≤ _; exact Nat.le_of_eq rfl) (by decide)
      have V178 : Arv Z h178 t k .char (4 : Int32) [(.int x0), (.int x1), (.int x2), (.int (0 : Int32))] (.int (0 : Int32)) := Vc178
      have Fn_179 := (F_v.keep K178 (ninS (Ne.symm hne) nin0))
      obtain ⟨T180, X180, e180, st180⟩ := getF X178 hx hZ hown (host := "") (Or.inl (hw _ (List.mem_of_getElem? (i := 10) rfl))) Via.refl e178 Fn_179 (g := (mkF m 105 #[rv a1, iv p2, iv (-4 : Int32), iv (3 : Int32)] [(.ref a1)])) rfl rfl (hb hby d6_105)
      obtain ⟨cl181, Ar181, q181, S181, M181, H181, G181⟩ := id V178
      have hin181 : ¬ ((3 : Int32) < 0 ∨ cl181.slots.size ≤ ((3 : Int32)).toNatClampNeg) := inb_of S181 ⟨by decide, by decide⟩
      obtain ⟨T181, h181, X181, e181, W181, st181⟩ := stC X180 hx hZ e180 Ar181 (j := (3 : Int32)) hin181 (g := (mkF m 110 #[rv a1, iv p2, iv (-4 : Int32), iv (3 : Int32)] [(.int p2), (.int (3 : Int32)), (.ref t)])) rfl rfl (hb hby d6_110)
      have V181 : Arv Z h181 t k .char (4 : Int32) [(.int x0), (.int x1), (.int x2), (.int (nar .char p2))] (.int (0 : Int32)) := Arv.set Ar181 q181 S181 M181 H181 G181 (fits_nar_char _) W181 3 rfl (Nat.le_of_ble_eq_true rfl)
      have N181 := Fr.snoc X181 N178 g_t
      have Fn_182 := ((F_c'.keep K178 (ninS (Ne.symm hne) nin0)).other W181 (Or.inl (Ne.symm hne)))
      obtain ⟨T183, X183, e183, st183⟩ := getF X181 hx hZ hown (host := "") (Or.inl (hw _ (List.mem_of_getElem? (i := 12) rfl))) Via.refl e181 Fn_182 (g := (mkF m 113 #[rv a1, iv p2, iv (-4 : Int32), iv (3 : Int32)] [(.ref a1), (.ref a1)])) rfl rfl (hb hby d6_113)
      have En_184 := ((E_a1.keep K178).wr W181)
      obtain ⟨T185, h185, X185, e185, W185, st185⟩ := putF X183 hx hZ hown (host := "") (Or.inl (hw _ (List.mem_of_getElem? (i := 12) rfl))) Via.refl e183 Fn_182 En_184 (Or.inl (hw _ (List.mem_of_getElem? (i := 13) rfl))) (hw _ (List.mem_of_getElem? (i := 1) rfl)) (ty := .int) (by decide) rfl rfl (g := (mkF m 118 #[rv a1, iv p2, iv (-4 : Int32), iv (3 : Int32)] [(.int (4 : Int32)), (.ref a1)])) rfl rfl (hb hby d6_118)
      have Fw185 := Fn_182.same W185
      have N185 := Fr.snoc X185 N181 g_a1
      have pre186 : ∀ tg, own_S p e below T185 m 122 #[rv a1, iv p2, iv (-4 : Int32), iv (3 : Int32)] [(.ref a1)] tg → Steps p.tables e below (s₁.setTop (entryFrame m #[(.ref a1), (.int p2)] 4)) tg := fun tg k => pre110 tg (by
        show own_S p e below T109 m 13 #[rv a1, iv p2, .unset, .unset] [(.int (-4 : Int32))] _
        refine XS.istoreN X109.here hx rfl (hb hby d6_13) rfl (l' := #[rv a1, iv p2, iv (-4 : Int32), .unset]) rfl ?_
        refine XS.iloadN X109.here hx rfl (hb hby d6_14) rfl ?_
        refine XS.ifYes X109.here hx rfl (pc0 := 15) (pc' := 20) rfl (hb hby d6_15) rfl ((if0 _ _).trans (tlt (by decide : (-4 : Int32) < (0 : Int32))).1) (by decide) (by decide) ?_
        show own_S p e below T109 m 20 #[rv a1, iv p2, iv (-4 : Int32), .unset] [] _
        refine XS.aloadN X109.here hx rfl (hb hby d6_20) rfl rfl ?_
        refine st171 _ ?_
        refine XS.sipush X171.here hx rfl (hb hby d6_24) ?_
        show own_S p e below T171 m 27 #[rv a1, iv p2, iv (-4 : Int32), .unset] [(.int (4096 : Int32)), (.int (3 : Int32))] _
        refine XS.icmpYes X171.here hx rfl (pc0 := 27) (pc' := 42) rfl (hb hby d6_27) rfl (feq (by decide : ¬ ((3 : Int32) = (4096 : Int32)))).2 (by decide) (by decide) ?_
        refine XS.iloadN X171.here hx rfl (hb hby d6_42) rfl ?_
        refine XS.ineg X171.here hx rfl (hb hby d6_43) rfl ?_
        show own_S p e below T171 m 44 #[rv a1, iv p2, iv (-4 : Int32), .unset] [(.int (4 : Int32))] _
        refine XS.iconst X171.here hx rfl (hb hby d6_44) ?_
        refine XS.isub X171.here hx rfl (hb hby d6_45) rfl ?_
        refine XS.istoreN X171.here hx rfl (hb hby d6_46) rfl (l' := #[rv a1, iv p2, iv (-4 : Int32), iv (3 : Int32)]) rfl ?_
        show own_S p e below T171 m 47 #[rv a1, iv p2, iv (-4 : Int32), iv (3 : Int32)] [] _
        refine XS.aloadN X171.here hx rfl (hb hby d6_47) rfl rfl ?_
        refine st172 _ ?_
        refine XS.aloadN X172.here hx rfl (hb hby d6_51) rfl rfl ?_
        show own_S p e below T172 m 52 #[rv a1, iv p2, iv (-4 : Int32), iv (3 : Int32)] [(.ref a1), (.int (3 : Int32))] _
        refine st173 _ ?_
        refine X173.arraylength hx (by rw [e173]; exact Ar174.1) (State.isArrayOf_alike hZ.alike Ar174.2.1) (g := (mkF m 55 #[rv a1, iv p2, iv (-4 : Int32), iv (3 : Int32)] [(.ref t), (.int (3 : Int32))])) rfl rfl (hb hby d6_55) _ ?_
        rw [len_of S174 M174]
        refine XS.icmpYes X173.here hx rfl (pc0 := 56) (pc' := 83) rfl (hb hby d6_56) rfl (feq (by decide : ¬ ((3 : Int32) = (4 : Int32)))).2 (by decide) (by decide) ?_
        show own_S p e below T173 m 83 #[rv a1, iv p2, iv (-4 : Int32), iv (3 : Int32)] [] _
        refine XS.aloadN X173.here hx rfl (hb hby d6_83) rfl rfl ?_
        refine st175 _ ?_
        refine XS.iloadN X175.here hx rfl (hb hby d6_87) rfl ?_
        show own_S p e below T175 m 88 #[rv a1, iv p2, iv (-4 : Int32), iv (3 : Int32)] [(.int (3 : Int32)), (.ref t)] _
        refine XS.aloadN X175.here hx rfl (hb hby d6_88) rfl rfl ?_
        refine st176 _ ?_
        refine XS.iloadN X176.here hx rfl (hb hby d6_92) rfl ?_
        show own_S p e below T176 m 93 #[rv a1, iv p2, iv (-4 : Int32), iv (3 : Int32)] [(.int (3 : Int32)), (.ref t), (.int (3 : Int32)), (.ref t)] _
        refine XS.iconst X176.here hx rfl (hb hby d6_93) ?_
        refine XS.iadd X176.here hx rfl (hb hby d6_94) rfl ?_
        refine XS.aloadN X176.here hx rfl (hb hby d6_95) rfl rfl ?_
        show own_S p e below T176 m 96 #[rv a1, iv p2, iv (-4 : Int32), iv (3 : Int32)] [(.ref a1), (.int (4 : Int32)), (.ref t), (.int (3 : Int32)), (.ref t)] _
        refine st177 _ ?_
        refine XS.iloadN X177.here hx rfl (hb hby d6_99) rfl ?_
        refine XS.isub X177.here hx rfl (hb hby d6_100) rfl ?_
        show own_S p e below T177 m 101 #[rv a1, iv p2, iv (-4 : Int32), iv (3 : Int32)] [(.int (0 : Int32)), (.int (4 : Int32)), (.ref t), (.int (3 : Int32)), (.ref t)] _
        refine st178 _ ?_
        refine XS.aloadN X178.here hx rfl (hb hby d6_104) rfl rfl ?_
        refine st180 _ ?_
        show own_S p e below T180 m 108 #[rv a1, iv p2, iv (-4 : Int32), iv (3 : Int32)] [(.ref t)] _
        refine XS.iloadN X180.here hx rfl (hb hby d6_108) rfl ?_
        refine XS.iloadN X180.here hx rfl (hb hby d6_109) rfl ?_
        refine st181 _ ?_
        show own_S p e below T181 m 111 #[rv a1, iv p2, iv (-4 : Int32), iv (3 : Int32)] [] _
        refine XS.aloadN X181.here hx rfl (hb hby d6_111) rfl rfl ?_
        refine XS.dup X181.here hx rfl (hb hby d6_112) rfl rfl ?_
        refine st183 _ ?_
        show own_S p e below T183 m 116 #[rv a1, iv p2, iv (-4 : Int32), iv (3 : Int32)] [(.int (3 : Int32)), (.ref a1)] _
        refine XS.iconst X183.here hx rfl (hb hby d6_116) ?_
        refine XS.iadd X183.here hx rfl (hb hby d6_117) rfl ?_
        refine st185 _ ?_
        show own_S p e below T185 m 121 #[rv a1, iv p2, iv (-4 : Int32), iv (3 : Int32)] [] _
        refine XS.aloadN X185.here hx rfl (hb hby d6_121) rfl rfl ?_
        exact k)
      obtain ⟨fs, hr, hrun, hended, hW, hsame⟩ := X185.leave (v := some (.ref a1)) (fun h => by rw [Bd.returns] at h; cases h)
      refine ⟨_, _, pre186 _ ?_, hrun, hended, _, _, rfl, ?_, ⟨_, rfl⟩, hW, hsame.mono (by decide) (by decide)⟩
      · show own_S p e below T185 m 122 #[rv a1, iv p2, iv (-4 : Int32), iv (3 : Int32)] [(.ref a1)] _
        exact retOut X185 hx (t := (.object "com/example/bitstrata/bitstrata/Container")) Bd.returns rfl (Or.inr (Or.inr (Or.inr (Or.inr ⟨rfl, rfl, rfl⟩)))) (hb hby d6_122) hr
      · show QAdd Z a1 p2 t k [x0, x1, x2] h0 n0 _ T185.heap _
        rw [e185]
        have En_187 := (En_184.wr W185)
        have Fn_188 := ((Fn_179.other W181 (Or.inl (Ne.symm hne))).other W185 (Or.inr (slot_ne (Or.inl (hw _ (List.mem_of_getElem? (i := 11) rfl))) (Or.inl (hw _ (List.mem_of_getElem? (i := 13) rfl))) (by decide) (t := (.array .char)) (t' := .int) (by decide) (by decide))))
        have Vn_189 := (V181.other W185 hne)
        rw [hk] at Vn_189
        refine ⟨[x0, x1, x2, p2], t, _, rfl, N185, ((((Keep.refl h0 [a1, t]).trans K178 (allS (Or.inl (List.mem_of_getElem? (i := 1) rfl)) all0)).wr W181 (Or.inl (List.mem_of_getElem? (i := 1) rfl))).wr W185 (Or.inl (List.mem_of_getElem? (i := 0) rfl))), En_187, Fn_188, Fw185, Vn_189, g_t, hne, Or.inl rfl, Nat.le_of_ble_eq_true rfl, Nat.le_of_ble_eq_true rfl, ?_, ?_, ?_⟩
        · exact ⟨(by first | assumption | exact own_tr (by assumption) (by assumption)), (by first | assumption | exact own_tr (by assumption) (by assumption)), (by first | assumption | exact own_tr (by assumption) (by assumption)), trivial⟩
        · intro x hx; simp only [List.mem_cons, List.not_mem_nil, or_false] at hx; rcases hx with rfl | rfl | rfl | rfl <;> first | exact hk | exact hch _ (by simp)
        · intro x; simp only [List.mem_cons, List.not_mem_nil, or_false]; try (constructor; (intro h; rcases h with h | h | h | h <;> simp [h]); (intro h; rcases h with (h | h | h) | h <;> simp [h]))
def own_pre (xs : List Int32) (vs : List Value) : Prop := ∀ i, i < xs.length → vs.getD i (.int 0) = .int (xs.getD i 0)
theorem ef_Rem (m : MethodId) (a1 : Addr) (p2 : Int32) : entryFrame m #[(.ref a1), (.int p2)] 3 = mkF m 0 #[rv a1, iv p2, .unset] [] := by first | (simp [entryFrame, mkF, argsToLocals, Value.category]; done) | rfl
def QRem (Z : State) (a1 : Addr) (p2 : Int32) (t : Addr) (k : ClassId) (xs : List Int32) (h0 : Heap) (n0 : Nat) (v : Option Value) (h : Heap) (L : List Loc) : Prop := ∃ (ys : List Int32) (vs : List Value), v = some (.ref a1) ∧ Fr n0 L ∧ Keep h0 h [a1, t] ∧ Exa Z h a1 "com/example/bitstrata/bitstrata/ArrayContainer" ∧ Fld Z h a1 "com/example/bitstrata/bitstrata/ArrayContainer" "values" "[C" (.ref t) ∧ Fld Z h a1 "com/example/bitstrata/bitstrata/ArrayContainer" "cardinality" "I" (.int (Int32.ofNat ys.length)) ∧ Arv Z h t k .char (4 : Int32) vs (.int 0) ∧ ys.length ≤ 4 ∧ own_pre ys vs ∧ own_srt ys ∧ own_chs ys ∧ ∀ x, x ∈ ys ↔ (x ∈ xs ∧ ¬ x = p2)
theorem d10_0 : decode prog_1_method_16_code 0 = .ok (.aload_n 0, 1) := by decide +kernel
theorem d10_1 : decode prog_1_method_16_code 1 = .ok (.getfield 9, 3) := by decide +kernel
theorem d10_4 : decode prog_1_method_16_code 4 = .ok (.iconst 0, 1) := by decide +kernel
theorem d10_5 : decode prog_1_method_16_code 5 = .ok (.aload_n 0, 1) := by decide +kernel
theorem d10_6 : decode prog_1_method_16_code 6 = .ok (.getfield 13, 3) := by decide +kernel
theorem d10_9 : decode prog_1_method_16_code 9 = .ok (.iload_n 1, 1) := by decide +kernel
theorem d10_10 : decode prog_1_method_16_code 10 = .ok (.invokestatic 51, 3) := by decide +kernel
theorem d10_13 : decode prog_1_method_16_code 13 = .ok (.istore_n 2, 1) := by decide +kernel
theorem d10_14 : decode prog_1_method_16_code 14 = .ok (.iload_n 2, 1) := by decide +kernel
theorem d10_15 : decode prog_1_method_16_code 15 = .ok (.ifCond .lt 36, 3) := by decide +kernel
theorem d10_18 : decode prog_1_method_16_code 18 = .ok (.aload_n 0, 1) := by decide +kernel
theorem d10_19 : decode prog_1_method_16_code 19 = .ok (.getfield 9, 3) := by decide +kernel
theorem d10_22 : decode prog_1_method_16_code 22 = .ok (.iload_n 2, 1) := by decide +kernel
theorem d10_23 : decode prog_1_method_16_code 23 = .ok (.iconst 1, 1) := by decide +kernel
theorem d10_24 : decode prog_1_method_16_code 24 = .ok (.iadd, 1) := by decide +kernel
theorem d10_25 : decode prog_1_method_16_code 25 = .ok (.aload_n 0, 1) := by decide +kernel
theorem d10_26 : decode prog_1_method_16_code 26 = .ok (.getfield 9, 3) := by decide +kernel
theorem d10_29 : decode prog_1_method_16_code 29 = .ok (.iload_n 2, 1) := by decide +kernel
theorem d10_30 : decode prog_1_method_16_code 30 = .ok (.aload_n 0, 1) := by decide +kernel
theorem d10_31 : decode prog_1_method_16_code 31 = .ok (.getfield 13, 3) := by decide +kernel
theorem d10_34 : decode prog_1_method_16_code 34 = .ok (.iload_n 2, 1) := by decide +kernel
theorem d10_35 : decode prog_1_method_16_code 35 = .ok (.isub, 1) := by decide +kernel
theorem d10_36 : decode prog_1_method_16_code 36 = .ok (.iconst 1, 1) := by decide +kernel
theorem d10_37 : decode prog_1_method_16_code 37 = .ok (.isub, 1) := by decide +kernel
theorem d10_38 : decode prog_1_method_16_code 38 = .ok (.invokestatic 80, 3) := by decide +kernel
theorem d10_41 : decode prog_1_method_16_code 41 = .ok (.aload_n 0, 1) := by decide +kernel
theorem d10_42 : decode prog_1_method_16_code 42 = .ok (.dup, 1) := by decide +kernel
theorem d10_43 : decode prog_1_method_16_code 43 = .ok (.getfield 13, 3) := by decide +kernel
theorem d10_46 : decode prog_1_method_16_code 46 = .ok (.iconst 1, 1) := by decide +kernel
theorem d10_47 : decode prog_1_method_16_code 47 = .ok (.isub, 1) := by decide +kernel
theorem d10_48 : decode prog_1_method_16_code 48 = .ok (.putfield 13, 3) := by decide +kernel
theorem d10_51 : decode prog_1_method_16_code 51 = .ok (.aload_n 0, 1) := by decide +kernel
theorem d10_52 : decode prog_1_method_16_code 52 = .ok (.areturn, 1) := by decide +kernel
set_option maxRecDepth 65536 in
set_option maxHeartbeats 40000000 in
theorem rmRem (l : Launch) (Z : State) (a0 : Array Value) (hw : ∀ d ∈ tables_1, d.before a0 Z = true) (ws : List Jvm.Cond) (a1 : Addr) (p2 : Int32) (t : Addr) (k : ClassId) (xs : List Int32) (h0 : Heap) (n0 : Nat) (Z0 : n0 ≤ h0.size) (E_a1 : Exa Z h0 a1 "com/example/bitstrata/bitstrata/ArrayContainer") (g_a1 : n0 ≤ a1) (g_t : n0 ≤ t) (F_v : Fld Z h0 a1 "com/example/bitstrata/bitstrata/ArrayContainer" "values" "[C" (.ref t)) (F_c : Fld Z h0 a1 "com/example/bitstrata/bitstrata/ArrayContainer" "cardinality" "I" (.int (Int32.ofNat xs.length))) (V_t : Arv Z h0 t k .char (own_z xs) (own_vs xs) (.int 0)) (hne : t ≠ a1) (hl1 : 1 ≤ xs.length) (hl2 : xs.length ≤ 4) (hs : own_srt xs) (hch : own_chs xs) (hmem : p2 ∈ xs) :
    MetFree l (⟨"com/example/bitstrata/bitstrata/ArrayContainer", "remove", "(C)Lcom/example/bitstrata/bitstrata/Container;"⟩ : MethodName) (head1 (Jvm.Cond.code (⟨"com/example/bitstrata/bitstrata/ArrayContainer", "remove", "(C)Lcom/example/bitstrata/bitstrata/Container;"⟩ : MethodName) prog_1_method_16_code 3 (some (.object "com/example/bitstrata/bitstrata/Container")) :: ws) ({ frames := 3, cells := 0, slots := 0, locals := 100 } : Room)) (fun a U => a = #[(.ref a1), (.int p2)] ∧ Z.Warmed39 U.vm ∧ U.heap = h0) (fun _ _ _ _ _ => True) (fun _ U o U' => ∃ v L, o = .returned v ∧ QRem Z a1 p2 t k xs h0 n0 v U'.heap L ∧ FrameEnd U o U' L ({ frames := 3, cells := 0, slots := 0, locals := 100 } : Room).cells ({ frames := 3, cells := 0, slots := 0, locals := 100 } : Room).slots) := by
  refine MetFree.of_bodySF (plainFor_of_name pn_0) hisR ?_
  intro p e s m args below meth c s₁ Bd hml0 hP hK
  obtain ⟨rfl, hZ, hh⟩ := hP
  have hx := Bd.exec
  have hby := Bd.bytes
  have hml : c.maxLocals = 3 := hml0
  have hown : s.vm.findClass "com/example/bitstrata/bitstrata/ArrayContainer" = some m.cls := findClass_of_methodNamed Bd.named
  have hnm := (name_of_methodNamed Bd.named Bd.method).1
  have X0 : Stand p l e ({ frames := 3, cells := 0, slots := 0, locals := 100 } : Room) s m #[(.ref a1), (.int p2)] below meth c s₁ [] 0 0 := Stand.of_body Bd
  have e0 : s₁.heap = h0 := by rw [← hh, Bd.state]; rfl
  have N0 := Fr.nil n0
  have pre0 : ∀ tg, Steps p.tables e below (s₁.setTop (mkF m 0 #[rv a1, iv p2, .unset] [])) tg → Steps p.tables e below (s₁.setTop (entryFrame m #[(.ref a1), (.int p2)] 3)) tg := fun tg k => castTop (ef_Rem m a1 p2) k
  have hlen : xs.length = 1 ∨ xs.length = 2 ∨ xs.length = 3 ∨ xs.length = 4 := by omega
  rcases hlen with hl | hl | hl | hl
  ·  -- case
    obtain ⟨x0, rfl⟩ := own_len1 hl
    have F_c' : Fld Z h0 a1 "com/example/bitstrata/bitstrata/ArrayContainer" "cardinality" "I" (.int (1 : Int32)) := F_c
    have V_t' : Arv Z h0 t k .char (4 : Int32) [(.int x0), (.int (0 : Int32)), (.int (0 : Int32)), (.int (0 : Int32))] (.int (0 : Int32)) := V_t
    clear hs
    obtain ⟨T1, X1, e1, st1⟩ := getF X0 hx hZ hown (host := "") (Or.inl (hw _ (List.mem_of_getElem? (i := 10) rfl))) Via.refl e0 F_v (g := (mkF m 1 #[rv a1, iv p2, .unset] [(.ref a1)])) rfl rfl (hb hby d10_1)
    obtain ⟨T2, X2, e2, st2⟩ := getF X1 hx hZ hown (host := "") (Or.inl (hw _ (List.mem_of_getElem? (i := 12) rfl))) Via.refl e1 F_c' (g := (mkF m 6 #[rv a1, iv p2, .unset] [(.ref a1), (.int (0 : Int32)), (.ref t)])) rfl rfl (hb hby d10_6)
    obtain ⟨_, _, ⟨T3, L3, k3, n3⟩, -, X3, ⟨Lc3, hQ3, l3, y3, z3⟩, st3⟩ := Jvm.LawKit.callS X2 hx (y := (⟨"java/util/Arrays", "binarySearch", "([CIIC)I"⟩ : MethodName)) hown (mvT hZ (hw _ (List.mem_of_getElem? (i := 38) rfl))) (mvT hZ (hw _ (List.mem_of_getElem? (i := 39) rfl))) (mvT hZ (hw _ (List.mem_of_getElem? (i := 40) rfl))) (mvT hZ (hw _ (List.mem_of_getElem? (i := 41) rfl))) (by decide) (backOf (W := 0) (rmS1 l Z a0 hw [] t p2 k x0 h0 n0 Z0 V_t') hZ (hw _ (List.mem_of_getElem? (i := 41) rfl)) (hw _ (List.mem_of_getElem? (i := 40) rfl)) (by decide) (by decide)) (g := (mkF m 10 #[rv a1, iv p2, .unset] [(.int p2), (.int (1 : Int32)), (.int (0 : Int32)), (.ref t)])) rfl (by rw [hml]; rfl) (argsL := [(.ref t), (.int (0 : Int32)), (.int (1 : Int32)), (.int p2)]) (rest := []) (lenOf pd_1 rfl) rfl (by show 2 * 0 + _ ≤ _; exact Nat.le_of_eq rfl) (hb hby d10_10) (fun _ _ => ⟨rfl, e2, (by decide : 0 + 0 ≤ _), (by decide : 0 + 0 ≤ _)⟩)
    dsimp only [Pt.U, Pt.locs, Pt.cells, Pt.slots] at X3 l3 y3 z3 st3 hQ3
    subst l3 y3 z3
    obtain ⟨r3, rfl, N3q, e3q, hD3⟩ := hQ3
    have N3 := Fr.app N0 N3q
    have e3 : T3.heap = h0 := e3q
    have pre4 : ∀ tg, own_S p e below T3 m 13 #[rv a1, iv p2, .unset] [(.int r3)] tg → Steps p.tables e below (s₁.setTop (entryFrame m #[(.ref a1), (.int p2)] 3)) tg := fun tg k => pre0 tg (by
      show own_S p e below s₁ m 0 #[rv a1, iv p2, .unset] [] _
      refine XS.aloadN X0.here hx rfl (hb hby d10_0) rfl rfl ?_
      refine st1 _ ?_
      refine XS.iconst X1.here hx rfl (hb hby d10_4) ?_
      show own_S p e below T1 m 5 #[rv a1, iv p2, .unset] [(.int (0 : Int32)), (.ref t)] _
      refine XS.aloadN X1.here hx rfl (hb hby d10_5) rfl rfl ?_
      refine st2 _ ?_
      refine XS.iloadN X2.here hx rfl (hb hby d10_9) rfl ?_
      show own_S p e below T2 m 10 #[rv a1, iv p2, .unset] [(.int p2), (.int (1 : Int32)), (.int (0 : Int32)), (.ref t)] _
      refine st3 _ ?_
      exact k)
    rcases hD3 with ⟨rfl, q0⟩ | ⟨rfl, q0⟩ | ⟨rfl, q0⟩
    ·  -- case
      obtain ⟨T5, X5, e5, st5⟩ := getF X3 hx hZ hown (host := "") (Or.inl (hw _ (List.mem_of_getElem? (i := 10) rfl))) Via.refl e3 F_v (g := (mkF m 19 #[rv a1, iv p2, iv (0 : Int32)] [(.ref a1)])) rfl rfl (hb hby d10_19)
      obtain ⟨T6, X6, e6, st6⟩ := getF X5 hx hZ hown (host := "") (Or.inl (hw _ (List.mem_of_getElem? (i := 10) rfl))) Via.refl e5 F_v (g := (mkF m 26 #[rv a1, iv p2, iv (0 : Int32)] [(.ref a1), (.int (1 : Int32)), (.ref t)])) rfl rfl (hb hby d10_26)
      obtain ⟨T7, X7, e7, st7⟩ := getF X6 hx hZ hown (host := "") (Or.inl (hw _ (List.mem_of_getElem? (i := 12) rfl))) Via.refl e6 F_c' (g := (mkF m 31 #[rv a1, iv p2, iv (0 : Int32)] [(.ref a1), (.int (0 : Int32)), (.ref t), (.int (1 : Int32)), (.ref t)])) rfl rfl (hb hby d10_31)
      obtain ⟨T8, h8, L8, X8, e8, N8, K8, Vc8, st8⟩ := cpA X7 hx hZ hown (hw _ (List.mem_of_getElem? (i := 48) rfl)) (hw _ (List.mem_of_getElem? (i := 51) rfl)) (hw _ (List.mem_of_getElem? (i := 49) rfl)) (hw _ (List.mem_of_getElem? (i := 50) rfl)) e7 (us := []) (sp := (1 : Int32)) (dp := (0 : Int32)) (nn := (0 : Int32)) V_t' V_t' (Or.inl ⟨rfl, rfl⟩) (by decide) (by decide) (by decide) (by decide) (by decide) rfl (Nat.le_of_ble_eq_true rfl) N3 g_t (g := (mkF m 38 #[rv a1, iv p2, iv (0 : Int32)] [(.int (0 : Int32)), (.int (0 : Int32)), (.ref t), (.int (1 : Int32)), (.ref t)])) rfl (by rw [hml]; rfl) rfl (hb hby d10_38) (by decide) (W := 0) (by show 2 * 0 + _ ≤ _; exact Nat.le_of_eq rfl) (by decide)
      have V8 : Arv Z h8 t k .char (4 : Int32) [(.int x0), (.int (0 : Int32)), (.int (0 : Int32)), (.int (0 : Int32))] (.int (0 : Int32)) := Vc8
      have Fn_9 := (F_c'.keep K8 (ninS (Ne.symm hne) nin0))
      obtain ⟨T10, X10, e10, st10⟩ := getF X8 hx hZ hown (host := "") (Or.inl (hw _ (List.mem_of_getElem? (i := 12) rfl))) Via.refl e8 Fn_9 (g := (mkF m 43 #[rv a1, iv p2, iv (0 : Int32)] [(.ref a1), (.ref a1)])) rfl rfl (hb hby d10_43)
      have En_11 := (E_a1.keep K8)
      obtain ⟨T12, h12, X12, e12, W12, st12⟩ := putF X10 hx hZ hown (host := "") (Or.inl (hw _ (List.mem_of_getElem? (i := 12) rfl))) Via.refl e10 Fn_9 En_11 (Or.inl (hw _ (List.mem_of_getElem? (i := 13) rfl))) (hw _ (List.mem_of_getElem? (i := 1) rfl)) (ty := .int) (by decide) rfl rfl (g := (mkF m 48 #[rv a1, iv p2, iv (0 : Int32)] [(.int (0 : Int32)), (.ref a1)])) rfl rfl (hb hby d10_48)
      have Fw12 := Fn_9.same W12
      have N12 := Fr.snoc X12 N8 g_a1
      have pre13 : ∀ tg, own_S p e below T12 m 52 #[rv a1, iv p2, iv (0 : Int32)] [(.ref a1)] tg → Steps p.tables e below (s₁.setTop (entryFrame m #[(.ref a1), (.int p2)] 3)) tg := fun tg k => pre4 tg (by
        show own_S p e below T3 m 13 #[rv a1, iv p2, .unset] [(.int (0 : Int32))] _
        refine XS.istoreN X3.here hx rfl (hb hby d10_13) rfl (l' := #[rv a1, iv p2, iv (0 : Int32)]) rfl ?_
        refine XS.iloadN X3.here hx rfl (hb hby d10_14) rfl ?_
        refine XS.ifNo X3.here hx rfl (hb hby d10_15) rfl ((if0 _ _).trans (flt (by decide : ¬ ((0 : Int32) < (0 : Int32)))).1) ?_
        show own_S p e below T3 m 18 #[rv a1, iv p2, iv (0 : Int32)] [] _
        refine XS.aloadN X3.here hx rfl (hb hby d10_18) rfl rfl ?_
        refine st5 _ ?_
        refine XS.iloadN X5.here hx rfl (hb hby d10_22) rfl ?_
        show own_S p e below T5 m 23 #[rv a1, iv p2, iv (0 : Int32)] [(.int (0 : Int32)), (.ref t)] _
        refine XS.iconst X5.here hx rfl (hb hby d10_23) ?_
        refine XS.iadd X5.here hx rfl (hb hby d10_24) rfl ?_
        refine XS.aloadN X5.here hx rfl (hb hby d10_25) rfl rfl ?_
        show own_S p e below T5 m 26 #[rv a1, iv p2, iv (0 : Int32)] [(.ref a1), (.int (1 : Int32)), (.ref t)] _
        refine st6 _ ?_
        refine XS.iloadN X6.here hx rfl (hb hby d10_29) rfl ?_
        refine XS.aloadN X6.here hx rfl (hb hby d10_30) rfl rfl ?_
        show own_S p e below T6 m 31 #[rv a1, iv p2, iv (0 : Int32)] [(.ref a1), (.int (0 : Int32)), (.ref t), (.int (1 : Int32)), (.ref t)] _
        refine st7 _ ?_
        refine XS.iloadN X7.here hx rfl (hb hby d10_34) rfl ?_
        refine XS.isub X7.here hx rfl (hb hby d10_35) rfl ?_
        show own_S p e below T7 m 36 #[rv a1, iv p2, iv (0 : Int32)] [(.int (1 : Int32)), (.int (0 : Int32)), (.ref t), (.int (1 : Int32)), (.ref t)] _
        refine XS.iconst X7.here hx rfl (hb hby d10_36) ?_
        refine XS.isub X7.here hx rfl (hb hby d10_37) rfl ?_
        refine st8 _ ?_
        show own_S p e below T8 m 41 #[rv a1, iv p2, iv (0 : Int32)] [] _
        refine XS.aloadN X8.here hx rfl (hb hby d10_41) rfl rfl ?_
        refine XS.dup X8.here hx rfl (hb hby d10_42) rfl rfl ?_
        refine st10 _ ?_
        show own_S p e below T10 m 46 #[rv a1, iv p2, iv (0 : Int32)] [(.int (1 : Int32)), (.ref a1)] _
        refine XS.iconst X10.here hx rfl (hb hby d10_46) ?_
        refine XS.isub X10.here hx rfl (hb hby d10_47) rfl ?_
        refine st12 _ ?_
        show own_S p e below T12 m 51 #[rv a1, iv p2, iv (0 : Int32)] [] _
        refine XS.aloadN X12.here hx rfl (hb hby d10_51) rfl rfl ?_
        exact k)
      obtain ⟨fs, hr, hrun, hended, hW, hsame⟩ := X12.leave (v := some (.ref a1)) (fun h => by rw [Bd.returns] at h; cases h)
      refine ⟨_, _, pre13 _ ?_, hrun, hended, _, _, rfl, ?_, ⟨_, rfl⟩, hW, hsame.mono (by decide) (by decide)⟩
      · show own_S p e below T12 m 52 #[rv a1, iv p2, iv (0 : Int32)] [(.ref a1)] _
        exact retOut X12 hx (t := (.object "com/example/bitstrata/bitstrata/Container")) Bd.returns rfl (Or.inr (Or.inr (Or.inr (Or.inr ⟨rfl, rfl, rfl⟩)))) (hb hby d10_52) hr
      · show QRem Z a1 p2 t k [x0] h0 n0 _ T12.heap _
        rw [e12]
        have En_14 := (En_11.wr W12)
        have Fn_15 := ((F_v.keep K8 (ninS (Ne.symm hne) nin0)).other W12 (Or.inr (slot_ne (Or.inl (hw _ (List.mem_of_getElem? (i := 11) rfl))) (Or.inl (hw _ (List.mem_of_getElem? (i := 13) rfl))) (by decide) (t := (.array .char)) (t' := .int) (by decide) (by decide))))
        have Vn_16 := (V8.other W12 hne)
        refine ⟨[], [(.int x0), (.int (0 : Int32)), (.int (0 : Int32)), (.int (0 : Int32))], rfl, N12, (((Keep.refl h0 [a1, t]).trans K8 (allS (Or.inl (List.mem_of_getElem? (i := 1) rfl)) all0)).wr W12 (Or.inl (List.mem_of_getElem? (i := 0) rfl))), En_14, Fn_15, Fw12, Vn_16, ?_, ?_, ?_, ?_, ?_⟩
        · exact Nat.le_of_ble_eq_true rfl
        · intro i hi; exact absurd hi (Nat.not_lt_zero i)
        · exact trivial
        · intro x hx; cases hx
        · intro x; simp only [List.mem_cons, List.not_mem_nil, or_false]
          constructor
          · intro h; exact absurd h id
          · intro h; obtain ⟨h, g⟩ := h; rcases h with rfl
            · exact absurd q0 g
    ·  -- case
      exfalso
      simp only [List.mem_cons, List.not_mem_nil, or_false] at hmem
      have q := hmem
      exact own_irr _ (q ▸ q0)
    ·  -- case
      exfalso
      simp only [List.mem_cons, List.not_mem_nil, or_false] at hmem
      have q := hmem
      exact own_irr _ (q ▸ q0)
  ·  -- case
    obtain ⟨x0, x1, rfl⟩ := own_len2 hl
    have F_c' : Fld Z h0 a1 "com/example/bitstrata/bitstrata/ArrayContainer" "cardinality" "I" (.int (2 : Int32)) := F_c
    have V_t' : Arv Z h0 t k .char (4 : Int32) [(.int x0), (.int x1), (.int (0 : Int32)), (.int (0 : Int32))] (.int (0 : Int32)) := V_t
    have s01 : x0 < x1 := hs.1
    obtain ⟨T17, X17, e17, st17⟩ := getF X0 hx hZ hown (host := "") (Or.inl (hw _ (List.mem_of_getElem? (i := 10) rfl))) Via.refl e0 F_v (g := (mkF m 1 #[rv a1, iv p2, .unset] [(.ref a1)])) rfl rfl (hb hby d10_1)
    obtain ⟨T18, X18, e18, st18⟩ := getF X17 hx hZ hown (host := "") (Or.inl (hw _ (List.mem_of_getElem? (i := 12) rfl))) Via.refl e17 F_c' (g := (mkF m 6 #[rv a1, iv p2, .unset] [(.ref a1), (.int (0 : Int32)), (.ref t)])) rfl rfl (hb hby d10_6)
    obtain ⟨_, _, ⟨T19, L19, k19, n19⟩, -, X19, ⟨Lc19, hQ19, l19, y19, z19⟩, st19⟩ := Jvm.LawKit.callS X18 hx (y := (⟨"java/util/Arrays", "binarySearch", "([CIIC)I"⟩ : MethodName)) hown (mvT hZ (hw _ (List.mem_of_getElem? (i := 38) rfl))) (mvT hZ (hw _ (List.mem_of_getElem? (i := 39) rfl))) (mvT hZ (hw _ (List.mem_of_getElem? (i := 40) rfl))) (mvT hZ (hw _ (List.mem_of_getElem? (i := 41) rfl))) (by decide) (backOf (W := 0) (rmS2 l Z a0 hw [] t p2 k x0 x1 h0 n0 Z0 V_t') hZ (hw _ (List.mem_of_getElem? (i := 41) rfl)) (hw _ (List.mem_of_getElem? (i := 40) rfl)) (by decide) (by decide)) (g := (mkF m 10 #[rv a1, iv p2, .unset] [(.int p2), (.int (2 : Int32)), (.int (0 : Int32)), (.ref t)])) rfl (by rw [hml]; rfl) (argsL := [(.ref t), (.int (0 : Int32)), (.int (2 : Int32)), (.int p2)]) (rest := []) (lenOf pd_1 rfl) rfl (by show 2 * 0 + _ ≤ _; exact Nat.le_of_eq rfl) (hb hby d10_10) (fun _ _ => ⟨rfl, e18, (by decide : 0 + 0 ≤ _), (by decide : 0 + 0 ≤ _)⟩)
    dsimp only [Pt.U, Pt.locs, Pt.cells, Pt.slots] at X19 l19 y19 z19 st19 hQ19
    subst l19 y19 z19
    obtain ⟨r19, rfl, N19q, e19q, hD19⟩ := hQ19
    have N19 := Fr.app N0 N19q
    have e19 : T19.heap = h0 := e19q
    have pre20 : ∀ tg, own_S p e below T19 m 13 #[rv a1, iv p2, .unset] [(.int r19)] tg → Steps p.tables e below (s₁.setTop (entryFrame m #[(.ref a1), (.int p2)] 3)) tg := fun tg k => pre0 tg (by
      show own_S p e below s₁ m 0 #[rv a1, iv p2, .unset] [] _
      refine XS.aloadN X0.here hx rfl (hb hby d10_0) rfl rfl ?_
      refine st17 _ ?_
      refine XS.iconst X17.here hx rfl (hb hby d10_4) ?_
      show own_S p e below T17 m 5 #[rv a1, iv p2, .unset] [(.int (0 : Int32)), (.ref t)] _
      refine XS.aloadN X17.here hx rfl (hb hby d10_5) rfl rfl ?_
      refine st18 _ ?_
      refine XS.iloadN X18.here hx rfl (hb hby d10_9) rfl ?_
      show own_S p e below T18 m 10 #[rv a1, iv p2, .unset] [(.int p2), (.int (2 : Int32)), (.int (0 : Int32)), (.ref t)] _
      refine st19 _ ?_
      exact k)
    rcases hD19 with ⟨rfl, q0⟩ | ⟨rfl, q0⟩ | ⟨rfl, q0⟩ | ⟨rfl, q0, q1⟩ | ⟨rfl, q0⟩
    ·  -- case
      have ne1 : ¬ x1 = p2 := fun q => by rw [← q0] at q; exact own_irr _ (q ▸ s01)
      obtain ⟨T21, X21, e21, st21⟩ := getF X19 hx hZ hown (host := "") (Or.inl (hw _ (List.mem_of_getElem? (i := 10) rfl))) Via.refl e19 F_v (g := (mkF m 19 #[rv a1, iv p2, iv (0 : Int32)] [(.ref a1)])) rfl rfl (hb hby d10_19)
      obtain ⟨T22, X22, e22, st22⟩ := getF X21 hx hZ hown (host := "") (Or.inl (hw _ (List.mem_of_getElem? (i := 10) rfl))) Via.refl e21 F_v (g := (mkF m 26 #[rv a1, iv p2, iv (0 : Int32)] [(.ref a1), (.int (1 : Int32)), (.ref t)])) rfl rfl (hb hby d10_26)
      obtain ⟨T23, X23, e23, st23⟩ := getF X22 hx hZ hown (host := "") (Or.inl (hw _ (List.mem_of_getElem? (i := 12) rfl))) Via.refl e22 F_c' (g := (mkF m 31 #[rv a1, iv p2, iv (0 : Int32)] [(.ref a1), (.int (0 : Int32)), (.ref t), (.int (1 : Int32)), (.ref t)])) rfl rfl (hb hby d10_31)
      obtain ⟨T24, h24, L24, X24, e24, N24, K24, Vc24, st24⟩ := cpA X23 hx hZ hown (hw _ (List.mem_of_getElem? (i := 48) rfl)) (hw _ (List.mem_of_getElem? (i := 51) rfl)) (hw _ (List.mem_of_getElem? (i := 49) rfl)) (hw _ (List.mem_of_getElem? (i := 50) rfl)) e23 (us := [(.int x1)]) (sp := (1 : Int32)) (dp := (0 : Int32)) (nn := (1 : Int32)) V_t' V_t' (Or.inl ⟨rfl, rfl⟩) (by decide) (by decide) (by decide) (by decide) (by decide) rfl (Nat.le_of_ble_eq_true rfl) N19 g_t (g := (mkF m 38 #[rv a1, iv p2, iv (0 : Int32)] [(.int (1 : Int32)), (.int (0 : Int32)), (.ref t), (.int (1 : Int32)), (.ref t)])) rfl (by rw [hml]; rfl) rfl (hb hby d10_38) (by decide) (W := 0) (by show 2 * 0 + _ ≤ _; exact Nat.le_of_eq rfl) (by decide)
      have V24 : Arv Z h24 t k .char (4 : Int32) [(.int x1), (.int x1), (.int (0 : Int32)), (.int (0 : Int32))] (.int (0 : Int32)) := Vc24
      have Fn_25 := (F_c'.keep K24 (ninS (Ne.symm hne) nin0))
      obtain ⟨T26, X26, e26, st26⟩ := getF X24 hx hZ hown (host := "") (Or.inl (hw _ (List.mem_of_getElem? (i := 12) rfl))) Via.refl e24 Fn_25 (g := (mkF m 43 #[rv a1, iv p2, iv (0 : Int32)] [(.ref a1), (.ref a1)])) rfl rfl (hb hby d10_43)
      have En_27 := (E_a1.keep K24)
      obtain ⟨T28, h28, X28, e28, W28, st28⟩ := putF X26 hx hZ hown (host := "") (Or.inl (hw _ (List.mem_of_getElem? (i := 12) rfl))) Via.refl e26 Fn_25 En_27 (Or.inl (hw _ (List.mem_of_getElem? (i := 13) rfl))) (hw _ (List.mem_of_getElem? (i := 1) rfl)) (ty := .int) (by decide) rfl rfl (g := (mkF m 48 #[rv a1, iv p2, iv (0 : Int32)] [(.int (1 : Int32)), (.ref a1)])) rfl rfl (hb hby d10_48)
      have Fw28 := Fn_25.same W28
      have N28 := Fr.snoc X28 N24 g_a1
      have pre29 : ∀ tg, own_S p e below T28 m 52 #[rv a1, iv p2, iv (0 : Int32)] [(.ref a1)] tg → Steps p.tables e below (s₁.setTop (entryFrame m #[(.ref a1), (.int p2)] 3)) tg := fun tg k => pre20 tg (by
        show own_S p e below T19 m 13 #[rv a1, iv p2, .unset] [(.int (0 : Int32))] _
        refine XS.istoreN X19.here hx rfl (hb hby d10_13) rfl (l' := #[rv a1, iv p2, iv (0 : Int32)]) rfl ?_
        refine XS.iloadN X19.here hx rfl (hb hby d10_14) rfl ?_
        refine XS.ifNo X19.here hx rfl (hb hby d10_15) rfl ((if0 _ _).trans (flt (by decide : ¬ ((0 : Int32) < (0 : Int32)))).1) ?_
        show own_S p e below T19 m 18 #[rv a1, iv p2, iv (0 : Int32)] [] _
        refine XS.aloadN X19.here hx rfl (hb hby d10_18) rfl rfl ?_
        refine st21 _ ?_
        refine XS.iloadN X21.here hx rfl (hb hby d10_22) rfl ?_
        show own_S p e below T21 m 23 #[rv a1, iv p2, iv (0 : Int32)] [(.int (0 : Int32)), (.ref t)] _
        refine XS.iconst X21.here hx rfl (hb hby d10_23) ?_
        refine XS.iadd X21.here hx rfl (hb hby d10_24) rfl ?_
        refine XS.aloadN X21.here hx rfl (hb hby d10_25) rfl rfl ?_
        show own_S p e below T21 m 26 #[rv a1, iv p2, iv (0 : Int32)] [(.ref a1), (.int (1 : Int32)), (.ref t)] _
        refine st22 _ ?_
        refine XS.iloadN X22.here hx rfl (hb hby d10_29) rfl ?_
        refine XS.aloadN X22.here hx rfl (hb hby d10_30) rfl rfl ?_
        show own_S p e below T22 m 31 #[rv a1, iv p2, iv (0 : Int32)] [(.ref a1), (.int (0 : Int32)), (.ref t), (.int (1 : Int32)), (.ref t)] _
        refine st23 _ ?_
        refine XS.iloadN X23.here hx rfl (hb hby d10_34) rfl ?_
        refine XS.isub X23.here hx rfl (hb hby d10_35) rfl ?_
        show own_S p e below T23 m 36 #[rv a1, iv p2, iv (0 : Int32)] [(.int (2 : Int32)), (.int (0 : Int32)), (.ref t), (.int (1 : Int32)), (.ref t)] _
        refine XS.iconst X23.here hx rfl (hb hby d10_36) ?_
        refine XS.isub X23.here hx rfl (hb hby d10_37) rfl ?_
        refine st24 _ ?_
        show own_S p e below T24 m 41 #[rv a1, iv p2, iv (0 : Int32)] [] _
        refine XS.aloadN X24.here hx rfl (hb hby d10_41) rfl rfl ?_
        refine XS.dup X24.here hx rfl (hb hby d10_42) rfl rfl ?_
        refine st26 _ ?_
        show own_S p e below T26 m 46 #[rv a1, iv p2, iv (0 : Int32)] [(.int (2 : Int32)), (.ref a1)] _
        refine XS.iconst X26.here hx rfl (hb hby d10_46) ?_
        refine XS.isub X26.here hx rfl (hb hby d10_47) rfl ?_
        refine st28 _ ?_
        show own_S p e below T28 m 51 #[rv a1, iv p2, iv (0 : Int32)] [] _
        refine XS.aloadN X28.here hx rfl (hb hby d10_51) rfl rfl ?_
        exact k)
      obtain ⟨fs, hr, hrun, hended, hW, hsame⟩ := X28.leave (v := some (.ref a1)) (fun h => by rw [Bd.returns] at h; cases h)
      refine ⟨_, _, pre29 _ ?_, hrun, hended, _, _, rfl, ?_, ⟨_, rfl⟩, hW, hsame.mono (by decide) (by decide)⟩
      · show own_S p e below T28 m 52 #[rv a1, iv p2, iv (0 : Int32)] [(.ref a1)] _
        exact retOut X28 hx (t := (.object "com/example/bitstrata/bitstrata/Container")) Bd.returns rfl (Or.inr (Or.inr (Or.inr (Or.inr ⟨rfl, rfl, rfl⟩)))) (hb hby d10_52) hr
      · show QRem Z a1 p2 t k [x0, x1] h0 n0 _ T28.heap _
        rw [e28]
        have En_30 := (En_27.wr W28)
        have Fn_31 := ((F_v.keep K24 (ninS (Ne.symm hne) nin0)).other W28 (Or.inr (slot_ne (Or.inl (hw _ (List.mem_of_getElem? (i := 11) rfl))) (Or.inl (hw _ (List.mem_of_getElem? (i := 13) rfl))) (by decide) (t := (.array .char)) (t' := .int) (by decide) (by decide))))
        have Vn_32 := (V24.other W28 hne)
        refine ⟨[x1], [(.int x1), (.int x1), (.int (0 : Int32)), (.int (0 : Int32))], rfl, N28, (((Keep.refl h0 [a1, t]).trans K24 (allS (Or.inl (List.mem_of_getElem? (i := 1) rfl)) all0)).wr W28 (Or.inl (List.mem_of_getElem? (i := 0) rfl))), En_30, Fn_31, Fw28, Vn_32, ?_, ?_, ?_, ?_, ?_⟩
        · exact Nat.le_of_ble_eq_true rfl
        · intro i hi
          match i, hi with
          | 0, _ => rfl
        · exact trivial
        · intro x hx; exact hch x (by simp only [List.mem_cons, List.not_mem_nil, or_false] at hx ⊢; simp [hx])
        · intro x; simp only [List.mem_cons, List.not_mem_nil, or_false]
          constructor
          · intro h; subst h; simp [*]
          · intro h; obtain ⟨h, g⟩ := h; rcases h with rfl | rfl
            · exact absurd q0 g
            · simp
    ·  -- case
      have ne0 : ¬ x0 = p2 := fun q => by rw [← q0] at q; exact own_irr _ (q ▸ s01)
      obtain ⟨T33, X33, e33, st33⟩ := getF X19 hx hZ hown (host := "") (Or.inl (hw _ (List.mem_of_getElem? (i := 10) rfl))) Via.refl e19 F_v (g := (mkF m 19 #[rv a1, iv p2, iv (1 : Int32)] [(.ref a1)])) rfl rfl (hb hby d10_19)
      obtain ⟨T34, X34, e34, st34⟩ := getF X33 hx hZ hown (host := "") (Or.inl (hw _ (List.mem_of_getElem? (i := 10) rfl))) Via.refl e33 F_v (g := (mkF m 26 #[rv a1, iv p2, iv (1 : Int32)] [(.ref a1), (.int (2 : Int32)), (.ref t)])) rfl rfl (hb hby d10_26)
      obtain ⟨T35, X35, e35, st35⟩ := getF X34 hx hZ hown (host := "") (Or.inl (hw _ (List.mem_of_getElem? (i := 12) rfl))) Via.refl e34 F_c' (g := (mkF m 31 #[rv a1, iv p2, iv (1 : Int32)] [(.ref a1), (.int (1 : Int32)), (.ref t), (.int (2 : Int32)), (.ref t)])) rfl rfl (hb hby d10_31)
      obtain ⟨T36, h36, L36, X36, e36, N36, K36, Vc36, st36⟩ := cpA X35 hx hZ hown (hw _ (List.mem_of_getElem? (i := 48) rfl)) (hw _ (List.mem_of_getElem? (i := 51) rfl)) (hw _ (List.mem_of_getElem? (i := 49) rfl)) (hw _ (List.mem_of_getElem? (i := 50) rfl)) e35 (us := []) (sp := (2 : Int32)) (dp := (1 : Int32)) (nn := (0 : Int32)) V_t' V_t' (Or.inl ⟨rfl, rfl⟩) (by decide) (by decide) (by decide) (by decide) (by decide) rfl (Nat.le_of_ble_eq_true rfl) N19 g_t (g := (mkF m 38 #[rv a1, iv p2, iv (1 : Int32)] [(.int (0 : Int32)), (.int (1 : Int32)), (.ref t), (.int (2 : Int32)), (.ref t)])) rfl (by rw [hml]; rfl) rfl (hb hby d10_38) (by decide) (W := 0) (by show 2 * 0 + _ ≤ _; exact Nat.le_of_eq rfl) (by decide)
      have V36 : Arv Z h36 t k .char (4 : Int32) [(.int x0), (.int x1), (.int (0 : Int32)), (.int (0 : Int32))] (.int (0 : Int32)) := Vc36
      have Fn_37 := (F_c'.keep K36 (ninS (Ne.symm hne) nin0))
      obtain ⟨T38, X38, e38, st38⟩ := getF X36 hx hZ hown (host := "") (Or.inl (hw _ (List.mem_of_getElem? (i := 12) rfl))) Via.refl e36 Fn_37 (g := (mkF m 43 #[rv a1, iv p2, iv (1 : Int32)] [(.ref a1), (.ref a1)])) rfl rfl (hb hby d10_43)
      have En_39 := (E_a1.keep K36)
      obtain ⟨T40, h40, X40, e40, W40, st40⟩ := putF X38 hx hZ hown (host := "") (Or.inl (hw _ (List.mem_of_getElem? (i := 12) rfl))) Via.refl e38 Fn_37 En_39 (Or.inl (hw _ (List.mem_of_getElem? (i := 13) rfl))) (hw _ (List.mem_of_getElem? (i := 1) rfl)) (ty := .int) (by decide) rfl rfl (g := (mkF m 48 #[rv a1, iv p2, iv (1 : Int32)] [(.int (1 : Int32)), (.ref a1)])) rfl rfl (hb hby d10_48)
      have Fw40 := Fn_37.same W40
      have N40 := Fr.snoc X40 N36 g_a1
      have pre41 : ∀ tg, own_S p e below T40 m 52 #[rv a1, iv p2, iv (1 : Int32)] [(.ref a1)] tg → Steps p.tables e below (s₁.setTop (entryFrame m #[(.ref a1), (.int p2)] 3)) tg := fun tg k => pre20 tg (by
        show own_S p e below T19 m 13 #[rv a1, iv p2, .unset] [(.int (1 : Int32))] _
        refine XS.istoreN X19.here hx rfl (hb hby d10_13) rfl (l' := #[rv a1, iv p2, iv (1 : Int32)]) rfl ?_
        refine XS.iloadN X19.here hx rfl (hb hby d10_14) rfl ?_
        refine XS.ifNo X19.here hx rfl (hb hby d10_15) rfl ((if0 _ _).trans (flt (by decide : ¬ ((1 : Int32) < (0 : Int32)))).1) ?_
        show own_S p e below T19 m 18 #[rv a1, iv p2, iv (1 : Int32)] [] _
        refine XS.aloadN X19.here hx rfl (hb hby d10_18) rfl rfl ?_
        refine st33 _ ?_
        refine XS.iloadN X33.here hx rfl (hb hby d10_22) rfl ?_
        show own_S p e below T33 m 23 #[rv a1, iv p2, iv (1 : Int32)] [(.int (1 : Int32)), (.ref t)] _
        refine XS.iconst X33.here hx rfl (hb hby d10_23) ?_
        refine XS.iadd X33.here hx rfl (hb hby d10_24) rfl ?_
        refine XS.aloadN X33.here hx rfl (hb hby d10_25) rfl rfl ?_
        show own_S p e below T33 m 26 #[rv a1, iv p2, iv (1 : Int32)] [(.ref a1), (.int (2 : Int32)), (.ref t)] _
        refine st34 _ ?_
        refine XS.iloadN X34.here hx rfl (hb hby d10_29) rfl ?_
        refine XS.aloadN X34.here hx rfl (hb hby d10_30) rfl rfl ?_
        show own_S p e below T34 m 31 #[rv a1, iv p2, iv (1 : Int32)] [(.ref a1), (.int (1 : Int32)), (.ref t), (.int (2 : Int32)), (.ref t)] _
        refine st35 _ ?_
        refine XS.iloadN X35.here hx rfl (hb hby d10_34) rfl ?_
        refine XS.isub X35.here hx rfl (hb hby d10_35) rfl ?_
        show own_S p e below T35 m 36 #[rv a1, iv p2, iv (1 : Int32)] [(.int (1 : Int32)), (.int (1 : Int32)), (.ref t), (.int (2 : Int32)), (.ref t)] _
        refine XS.iconst X35.here hx rfl (hb hby d10_36) ?_
        refine XS.isub X35.here hx rfl (hb hby d10_37) rfl ?_
        refine st36 _ ?_
        show own_S p e below T36 m 41 #[rv a1, iv p2, iv (1 : Int32)] [] _
        refine XS.aloadN X36.here hx rfl (hb hby d10_41) rfl rfl ?_
        refine XS.dup X36.here hx rfl (hb hby d10_42) rfl rfl ?_
        refine st38 _ ?_
        show own_S p e below T38 m 46 #[rv a1, iv p2, iv (1 : Int32)] [(.int (2 : Int32)), (.ref a1)] _
        refine XS.iconst X38.here hx rfl (hb hby d10_46) ?_
        refine XS.isub X38.here hx rfl (hb hby d10_47) rfl ?_
        refine st40 _ ?_
        show own_S p e below T40 m 51 #[rv a1, iv p2, iv (1 : Int32)] [] _
        refine XS.aloadN X40.here hx rfl (hb hby d10_51) rfl rfl ?_
        exact k)
      obtain ⟨fs, hr, hrun, hended, hW, hsame⟩ := X40.leave (v := some (.ref a1)) (fun h => by rw [Bd.returns] at h; cases h)
      refine ⟨_, _, pre41 _ ?_, hrun, hended, _, _, rfl, ?_, ⟨_, rfl⟩, hW, hsame.mono (by decide) (by decide)⟩
      · show own_S p e below T40 m 52 #[rv a1, iv p2, iv (1 : Int32)] [(.ref a1)] _
        exact retOut X40 hx (t := (.object "com/example/bitstrata/bitstrata/Container")) Bd.returns rfl (Or.inr (Or.inr (Or.inr (Or.inr ⟨rfl, rfl, rfl⟩)))) (hb hby d10_52) hr
      · show QRem Z a1 p2 t k [x0, x1] h0 n0 _ T40.heap _
        rw [e40]
        have En_42 := (En_39.wr W40)
        have Fn_43 := ((F_v.keep K36 (ninS (Ne.symm hne) nin0)).other W40 (Or.inr (slot_ne (Or.inl (hw _ (List.mem_of_getElem? (i := 11) rfl))) (Or.inl (hw _ (List.mem_of_getElem? (i := 13) rfl))) (by decide) (t := (.array .char)) (t' := .int) (by decide) (by decide))))
        have Vn_44 := (V36.other W40 hne)
        refine ⟨[x0], [(.int x0), (.int x1), (.int (0 : Int32)), (.int (0 : Int32))], rfl, N40, (((Keep.refl h0 [a1, t]).trans K36 (allS (Or.inl (List.mem_of_getElem? (i := 1) rfl)) all0)).wr W40 (Or.inl (List.mem_of_getElem? (i := 0) rfl))), En_42, Fn_43, Fw40, Vn_44, ?_, ?_, ?_, ?_, ?_⟩
        · exact Nat.le_of_ble_eq_true rfl
        · intro i hi
          match i, hi with
          | 0, _ => rfl
        · exact trivial
        · intro x hx; exact hch x (by simp only [List.mem_cons, List.not_mem_nil, or_false] at hx ⊢; simp [hx])
        · intro x; simp only [List.mem_cons, List.not_mem_nil, or_false]
          constructor
          · intro h; subst h; simp [*]
          · intro h; obtain ⟨h, g⟩ := h; rcases h with rfl | rfl
            · simp
            · exact absurd q0 g
    ·  -- case
      exfalso
      simp only [List.mem_cons, List.not_mem_nil, or_false] at hmem
      rcases hmem with q | q
      · exact own_irr _ (q ▸ q0)
      · exact own_irr _ (q ▸ (own_tr q0 s01))
    ·  -- case
      exfalso
      simp only [List.mem_cons, List.not_mem_nil, or_false] at hmem
      rcases hmem with q | q
      · exact own_irr _ (q ▸ q0)
      · exact own_irr _ (q ▸ q1)
    ·  -- case
      exfalso
      simp only [List.mem_cons, List.not_mem_nil, or_false] at hmem
      rcases hmem with q | q
      · exact own_irr _ (q ▸ (own_tr s01 q0))
      · exact own_irr _ (q ▸ q0)
  ·  -- case
    obtain ⟨x0, x1, x2, rfl⟩ := own_len3 hl
    have F_c' : Fld Z h0 a1 "com/example/bitstrata/bitstrata/ArrayContainer" "cardinality" "I" (.int (3 : Int32)) := F_c
    have V_t' : Arv Z h0 t k .char (4 : Int32) [(.int x0), (.int x1), (.int x2), (.int (0 : Int32))] (.int (0 : Int32)) := V_t
    have s01 : x0 < x1 := hs.1
    have s12 : x1 < x2 := hs.2.1
    obtain ⟨T45, X45, e45, st45⟩ := getF X0 hx hZ hown (host := "") (Or.inl (hw _ (List.mem_of_getElem? (i := 10) rfl))) Via.refl e0 F_v (g := (mkF m 1 #[rv a1, iv p2, .unset] [(.ref a1)])) rfl rfl (hb hby d10_1)
    obtain ⟨T46, X46, e46, st46⟩ := getF X45 hx hZ hown (host := "") (Or.inl (hw _ (List.mem_of_getElem? (i := 12) rfl))) Via.refl e45 F_c' (g := (mkF m 6 #[rv a1, iv p2, .unset] [(.ref a1), (.int (0 : Int32)), (.ref t)])) rfl rfl (hb hby d10_6)
    obtain ⟨_, _, ⟨T47, L47, k47, n47⟩, -, X47, ⟨Lc47, hQ47, l47, y47, z47⟩, st47⟩ := Jvm.LawKit.callS X46 hx (y := (⟨"java/util/Arrays", "binarySearch", "([CIIC)I"⟩ : MethodName)) hown (mvT hZ (hw _ (List.mem_of_getElem? (i := 38) rfl))) (mvT hZ (hw _ (List.mem_of_getElem? (i := 39) rfl))) (mvT hZ (hw _ (List.mem_of_getElem? (i := 40) rfl))) (mvT hZ (hw _ (List.mem_of_getElem? (i := 41) rfl))) (by decide) (backOf (W := 0) (rmS3 l Z a0 hw [] t p2 k x0 x1 x2 h0 n0 Z0 V_t') hZ (hw _ (List.mem_of_getElem? (i := 41) rfl)) (hw _ (List.mem_of_getElem? (i := 40) rfl)) (by decide) (by decide)) (g := (mkF m 10 #[rv a1, iv p2, .unset] [(.int p2), (.int (3 : Int32)), (.int (0 : Int32)), (.ref t)])) rfl (by rw [hml]; rfl) (argsL := [(.ref t), (.int (0 : Int32)), (.int (3 : Int32)), (.int p2)]) (rest := []) (lenOf pd_1 rfl) rfl (by show 2 * 0 + _ ≤ _; exact Nat.le_of_eq rfl) (hb hby d10_10) (fun _ _ => ⟨rfl, e46, (by decide : 0 + 0 ≤ _), (by decide : 0 + 0 ≤ _)⟩)
    dsimp only [Pt.U, Pt.locs, Pt.cells, Pt.slots] at X47 l47 y47 z47 st47 hQ47
    subst l47 y47 z47
    obtain ⟨r47, rfl, N47q, e47q, hD47⟩ := hQ47
    have N47 := Fr.app N0 N47q
    have e47 : T47.heap = h0 := e47q
    have pre48 : ∀ tg, own_S p e below T47 m 13 #[rv a1, iv p2, .unset] [(.int r47)] tg → Steps p.tables e below (s₁.setTop (entryFrame m #[(.ref a1), (.int p2)] 3)) tg := fun tg k => pre0 tg (by
      show own_S p e below s₁ m 0 #[rv a1, iv p2, .unset] [] _
      refine XS.aloadN X0.here hx rfl (hb hby d10_0) rfl rfl ?_
      refine st45 _ ?_
      refine XS.iconst X45.here hx rfl (hb hby d10_4) ?_
      show own_S p e below T45 m 5 #[rv a1, iv p2, .unset] [(.int (0 : Int32)), (.ref t)] _
      refine XS.aloadN X45.here hx rfl (hb hby d10_5) rfl rfl ?_
      refine st46 _ ?_
      refine XS.iloadN X46.here hx rfl (hb hby d10_9) rfl ?_
      show own_S p e below T46 m 10 #[rv a1, iv p2, .unset] [(.int p2), (.int (3 : Int32)), (.int (0 : Int32)), (.ref t)] _
      refine st47 _ ?_
      exact k)
    rcases hD47 with ⟨rfl, q0⟩ | ⟨rfl, q0⟩ | ⟨rfl, q0⟩ | ⟨rfl, q0⟩ | ⟨rfl, q0, q1⟩ | ⟨rfl, q0, q1⟩ | ⟨rfl, q0⟩
    ·  -- case
      have ne1 : ¬ x1 = p2 := fun q => by rw [← q0] at q; exact own_irr _ (q ▸ s01)
      have ne2 : ¬ x2 = p2 := fun q => by rw [← q0] at q; exact own_irr _ (q ▸ (own_tr s01 s12))
      obtain ⟨T49, X49, e49, st49⟩ := getF X47 hx hZ hown (host := "") (Or.inl (hw _ (List.mem_of_getElem? (i := 10) rfl))) Via.refl e47 F_v (g := (mkF m 19 #[rv a1, iv p2, iv (0 : Int32)] [(.ref a1)])) rfl rfl (hb hby d10_19)
      obtain ⟨T50, X50, e50, st50⟩ := getF X49 hx hZ hown (host := "") (Or.inl (hw _ (List.mem_of_getElem? (i := 10) rfl))) Via.refl e49 F_v (g := (mkF m 26 #[rv a1, iv p2, iv (0 : Int32)] [(.ref a1), (.int (1 : Int32)), (.ref t)])) rfl rfl (hb hby d10_26)
      obtain ⟨T51, X51, e51, st51⟩ := getF X50 hx hZ hown (host := "") (Or.inl (hw _ (List.mem_of_getElem? (i := 12) rfl))) Via.refl e50 F_c' (g := (mkF m 31 #[rv a1, iv p2, iv (0 : Int32)] [(.ref a1), (.int (0 : Int32)), (.ref t), (.int (1 : Int32)), (.ref t)])) rfl rfl (hb hby d10_31)
      obtain ⟨T52, h52, L52, X52, e52, N52, K52, Vc52, st52⟩ := cpA X51 hx hZ hown (hw _ (List.mem_of_getElem? (i := 48) rfl)) (hw _ (List.mem_of_getElem? (i := 51) rfl)) (hw _ (List.mem_of_getElem? (i := 49) rfl)) (hw _ (List.mem_of_getElem? (i := 50) rfl)) e51 (us := [(.int x1), (.int x2)]) (sp := (1 : Int32)) (dp := (0 : Int32)) (nn := (2 : Int32)) V_t' V_t' (Or.inl ⟨rfl, rfl⟩) (by decide) (by decide) (by decide) (by decide) (by decide) rfl (Nat.le_of_ble_eq_true rfl) N47 g_t (g := (mkF m 38 #[rv a1, iv p2, iv (0 : Int32)] [(.int (2 : Int32)), (.int (0 : Int32)), (.ref t), (.int (1 : Int32)), (.ref t)])) rfl (by rw [hml]; rfl) rfl (hb hby d10_38) (by decide) (W := 0) (by show 2 * 0 + _ ≤ _; exact Nat.le_of_eq rfl) (by decide)
      have V52 : Arv Z h52 t k .char (4 : Int32) [(.int x1), (.int x2), (.int x2), (.int (0 : Int32))] (.int (0 : Int32)) := Vc52
      have Fn_53 := (F_c'.keep K52 (ninS (Ne.symm hne) nin0))
      obtain ⟨T54, X54, e54, st54⟩ := getF X52 hx hZ hown (host := "") (Or.inl (hw _ (List.mem_of_getElem? (i := 12) rfl))) Via.refl e52 Fn_53 (g := (mkF m 43 #[rv a1, iv p2, iv (0 : Int32)] [(.ref a1), (.ref a1)])) rfl rfl (hb hby d10_43)
      have En_55 := (E_a1.keep K52)
      obtain ⟨T56, h56, X56, e56, W56, st56⟩ := putF X54 hx hZ hown (host := "") (Or.inl (hw _ (List.mem_of_getElem? (i := 12) rfl))) Via.refl e54 Fn_53 En_55 (Or.inl (hw _ (List.mem_of_getElem? (i := 13) rfl))) (hw _ (List.mem_of_getElem? (i := 1) rfl)) (ty := .int) (by decide) rfl rfl (g := (mkF m 48 #[rv a1, iv p2, iv (0 : Int32)] [(.int (2 : Int32)), (.ref a1)])) rfl rfl (hb hby d10_48)
      have Fw56 := Fn_53.same W56
      have N56 := Fr.snoc X56 N52 g_a1
      have pre57 : ∀ tg, own_S p e below T56 m 52 #[rv a1, iv p2, iv (0 : Int32)] [(.ref a1)] tg → Steps p.tables e below (s₁.setTop (entryFrame m #[(.ref a1), (.int p2)] 3)) tg := fun tg k => pre48 tg (by
        show own_S p e below T47 m 13 #[rv a1, iv p2, .unset] [(.int (0 : Int32))] _
        refine XS.istoreN X47.here hx rfl (hb hby d10_13) rfl (l' := #[rv a1, iv p2, iv (0 : Int32)]) rfl ?_
        refine XS.iloadN X47.here hx rfl (hb hby d10_14) rfl ?_
        refine XS.ifNo X47.here hx rfl (hb hby d10_15) rfl ((if0 _ _).trans (flt (by decide : ¬ ((0 : Int32) < (0 : Int32)))).1) ?_
        show own_S p e below T47 m 18 #[rv a1, iv p2, iv (0 : Int32)] [] _
        refine XS.aloadN X47.here hx rfl (hb hby d10_18) rfl rfl ?_
        refine st49 _ ?_
        refine XS.iloadN X49.here hx rfl (hb hby d10_22) rfl ?_
        show own_S p e below T49 m 23 #[rv a1, iv p2, iv (0 : Int32)] [(.int (0 : Int32)), (.ref t)] _
        refine XS.iconst X49.here hx rfl (hb hby d10_23) ?_
        refine XS.iadd X49.here hx rfl (hb hby d10_24) rfl ?_
        refine XS.aloadN X49.here hx rfl (hb hby d10_25) rfl rfl ?_
        show own_S p e below T49 m 26 #[rv a1, iv p2, iv (0 : Int32)] [(.ref a1), (.int (1 : Int32)), (.ref t)] _
        refine st50 _ ?_
        refine XS.iloadN X50.here hx rfl (hb hby d10_29) rfl ?_
        refine XS.aloadN X50.here hx rfl (hb hby d10_30) rfl rfl ?_
        show own_S p e below T50 m 31 #[rv a1, iv p2, iv (0 : Int32)] [(.ref a1), (.int (0 : Int32)), (.ref t), (.int (1 : Int32)), (.ref t)] _
        refine st51 _ ?_
        refine XS.iloadN X51.here hx rfl (hb hby d10_34) rfl ?_
        refine XS.isub X51.here hx rfl (hb hby d10_35) rfl ?_
        show own_S p e below T51 m 36 #[rv a1, iv p2, iv (0 : Int32)] [(.int (3 : Int32)), (.int (0 : Int32)), (.ref t), (.int (1 : Int32)), (.ref t)] _
        refine XS.iconst X51.here hx rfl (hb hby d10_36) ?_
        refine XS.isub X51.here hx rfl (hb hby d10_37) rfl ?_
        refine st52 _ ?_
        show own_S p e below T52 m 41 #[rv a1, iv p2, iv (0 : Int32)] [] _
        refine XS.aloadN X52.here hx rfl (hb hby d10_41) rfl rfl ?_
        refine XS.dup X52.here hx rfl (hb hby d10_42) rfl rfl ?_
        refine st54 _ ?_
        show own_S p e below T54 m 46 #[rv a1, iv p2, iv (0 : Int32)] [(.int (3 : Int32)), (.ref a1)] _
        refine XS.iconst X54.here hx rfl (hb hby d10_46) ?_
        refine XS.isub X54.here hx rfl (hb hby d10_47) rfl ?_
        refine st56 _ ?_
        show own_S p e below T56 m 51 #[rv a1, iv p2, iv (0 : Int32)] [] _
        refine XS.aloadN X56.here hx rfl (hb hby d10_51) rfl rfl ?_
        exact k)
      obtain ⟨fs, hr, hrun, hended, hW, hsame⟩ := X56.leave (v := some (.ref a1)) (fun h => by rw [Bd.returns] at h; cases h)
      refine ⟨_, _, pre57 _ ?_, hrun, hended, _, _, rfl, ?_, ⟨_, rfl⟩, hW, hsame.mono (by decide) (by decide)⟩
      · show own_S p e below T56 m 52 #[rv a1, iv p2, iv (0 : Int32)] [(.ref a1)] _
        exact retOut X56 hx (t := (.object "com/example/bitstrata/bitstrata/Container")) Bd.returns rfl (Or.inr (Or.inr (Or.inr (Or.inr ⟨rfl, rfl, rfl⟩)))) (hb hby d10_52) hr
      · show QRem Z a1 p2 t k [x0, x1, x2] h0 n0 _ T56.heap _
        rw [e56]
        have En_58 := (En_55.wr W56)
        have Fn_59 := ((F_v.keep K52 (ninS (Ne.symm hne) nin0)).other W56 (Or.inr (slot_ne (Or.inl (hw _ (List.mem_of_getElem? (i := 11) rfl))) (Or.inl (hw _ (List.mem_of_getElem? (i := 13) rfl))) (by decide) (t := (.array .char)) (t' := .int) (by decide) (by decide))))
        have Vn_60 := (V52.other W56 hne)
        refine ⟨[x1, x2], [(.int x1), (.int x2), (.int x2), (.int (0 : Int32))], rfl, N56, (((Keep.refl h0 [a1, t]).trans K52 (allS (Or.inl (List.mem_of_getElem? (i := 1) rfl)) all0)).wr W56 (Or.inl (List.mem_of_getElem? (i := 0) rfl))), En_58, Fn_59, Fw56, Vn_60, ?_, ?_, ?_, ?_, ?_⟩
        · exact Nat.le_of_ble_eq_true rfl
        · intro i hi
          match i, hi with
          | 0, _ => rfl
          | 1, _ => rfl
        · exact ⟨(by first | assumption | exact own_tr (by assumption) (by assumption)), trivial⟩
        · intro x hx; exact hch x (by simp only [List.mem_cons, List.not_mem_nil, or_false] at hx ⊢; rcases hx with hx | hx <;> simp [*])
        · intro x; simp only [List.mem_cons, List.not_mem_nil, or_false]
          constructor
          · intro h; rcases h with rfl | rfl <;> simp [*]
          · intro h; obtain ⟨h, g⟩ := h; rcases h with rfl | rfl | rfl
            · exact absurd q0 g
            · simp
            · simp
    ·  -- case
      have ne0 : ¬ x0 = p2 := fun q => by rw [← q0] at q; exact own_irr _ (q ▸ s01)
      have ne2 : ¬ x2 = p2 := fun q => by rw [← q0] at q; exact own_irr _ (q ▸ s12)
      obtain ⟨T61, X61, e61, st61⟩ := getF X47 hx hZ hown (host := "") (Or.inl (hw _ (List.mem_of_getElem? (i := 10) rfl))) Via.refl e47 F_v (g := (mkF m 19 #[rv a1, iv p2, iv (1 : Int32)] [(.ref a1)])) rfl rfl (hb hby d10_19)
      obtain ⟨T62, X62, e62, st62⟩ := getF X61 hx hZ hown (host := "") (Or.inl (hw _ (List.mem_of_getElem? (i := 10) rfl))) Via.refl e61 F_v (g := (mkF m 26 #[rv a1, iv p2, iv (1 : Int32)] [(.ref a1), (.int (2 : Int32)), (.ref t)])) rfl rfl (hb hby d10_26)
      obtain ⟨T63, X63, e63, st63⟩ := getF X62 hx hZ hown (host := "") (Or.inl (hw _ (List.mem_of_getElem? (i := 12) rfl))) Via.refl e62 F_c' (g := (mkF m 31 #[rv a1, iv p2, iv (1 : Int32)] [(.ref a1), (.int (1 : Int32)), (.ref t), (.int (2 : Int32)), (.ref t)])) rfl rfl (hb hby d10_31)
      obtain ⟨T64, h64, L64, X64, e64, N64, K64, Vc64, st64⟩ := cpA X63 hx hZ hown (hw _ (List.mem_of_getElem? (i := 48) rfl)) (hw _ (List.mem_of_getElem? (i := 51) rfl)) (hw _ (List.mem_of_getElem? (i := 49) rfl)) (hw _ (List.mem_of_getElem? (i := 50) rfl)) e63 (us := [(.int x2)]) (sp := (2 : Int32)) (dp := (1 : Int32)) (nn := (1 : Int32)) V_t' V_t' (Or.inl ⟨rfl, rfl⟩) (by decide) (by decide) (by decide) (by decide) (by decide) rfl (Nat.le_of_ble_eq_true rfl) N47 g_t (g := (mkF m 38 #[rv a1, iv p2, iv (1 : Int32)] [(.int (1 : Int32)), (.int (1 : Int32)), (.ref t), (.int (2 : Int32)), (.ref t)])) rfl (by rw [hml]; rfl) rfl (hb hby d10_38) (by decide) (W := 0) (by show 2 * 0 + _ ≤ _; exact Nat.le_of_eq rfl) (by decide)
      have V64 : Arv Z h64 t k .char (4 : Int32) [(.int x0), (.int x2), (.int x2), (.int (0 : Int32))] (.int (0 : Int32)) := Vc64
      have Fn_65 := (F_c'.keep K64 (ninS (Ne.symm hne) nin0))
      obtain ⟨T66, X66, e66, st66⟩ := getF X64 hx hZ hown (host := "") (Or.inl (hw _ (List.mem_of_getElem? (i := 12) rfl))) Via.refl e64 Fn_65 (g := (mkF m 43 #[rv a1, iv p2, iv (1 : Int32)] [(.ref a1), (.ref a1)])) rfl rfl (hb hby d10_43)
      have En_67 := (E_a1.keep K64)
      obtain ⟨T68, h68, X68, e68, W68, st68⟩ := putF X66 hx hZ hown (host := "") (Or.inl (hw _ (List.mem_of_getElem? (i := 12) rfl))) Via.refl e66 Fn_65 En_67 (Or.inl (hw _ (List.mem_of_getElem? (i := 13) rfl))) (hw _ (List.mem_of_getElem? (i := 1) rfl)) (ty := .int) (by decide) rfl rfl (g := (mkF m 48 #[rv a1, iv p2, iv (1 : Int32)] [(.int (2 : Int32)), (.ref a1)])) rfl rfl (hb hby d10_48)
      have Fw68 := Fn_65.same W68
      have N68 := Fr.snoc X68 N64 g_a1
      have pre69 : ∀ tg, own_S p e below T68 m 52 #[rv a1, iv p2, iv (1 : Int32)] [(.ref a1)] tg → Steps p.tables e below (s₁.setTop (entryFrame m #[(.ref a1), (.int p2)] 3)) tg := fun tg k => pre48 tg (by
        show own_S p e below T47 m 13 #[rv a1, iv p2, .unset] [(.int (1 : Int32))] _
        refine XS.istoreN X47.here hx rfl (hb hby d10_13) rfl (l' := #[rv a1, iv p2, iv (1 : Int32)]) rfl ?_
        refine XS.iloadN X47.here hx rfl (hb hby d10_14) rfl ?_
        refine XS.ifNo X47.here hx rfl (hb hby d10_15) rfl ((if0 _ _).trans (flt (by decide : ¬ ((1 : Int32) < (0 : Int32)))).1) ?_
        show own_S p e below T47 m 18 #[rv a1, iv p2, iv (1 : Int32)] [] _
        refine XS.aloadN X47.here hx rfl (hb hby d10_18) rfl rfl ?_
        refine st61 _ ?_
        refine XS.iloadN X61.here hx rfl (hb hby d10_22) rfl ?_
        show own_S p e below T61 m 23 #[rv a1, iv p2, iv (1 : Int32)] [(.int (1 : Int32)), (.ref t)] _
        refine XS.iconst X61.here hx rfl (hb hby d10_23) ?_
        refine XS.iadd X61.here hx rfl (hb hby d10_24) rfl ?_
        refine XS.aloadN X61.here hx rfl (hb hby d10_25) rfl rfl ?_
        show own_S p e below T61 m 26 #[rv a1, iv p2, iv (1 : Int32)] [(.ref a1), (.int (2 : Int32)), (.ref t)] _
        refine st62 _ ?_
        refine XS.iloadN X62.here hx rfl (hb hby d10_29) rfl ?_
        refine XS.aloadN X62.here hx rfl (hb hby d10_30) rfl rfl ?_
        show own_S p e below T62 m 31 #[rv a1, iv p2, iv (1 : Int32)] [(.ref a1), (.int (1 : Int32)), (.ref t), (.int (2 : Int32)), (.ref t)] _
        refine st63 _ ?_
        refine XS.iloadN X63.here hx rfl (hb hby d10_34) rfl ?_
        refine XS.isub X63.here hx rfl (hb hby d10_35) rfl ?_
        show own_S p e below T63 m 36 #[rv a1, iv p2, iv (1 : Int32)] [(.int (2 : Int32)), (.int (1 : Int32)), (.ref t), (.int (2 : Int32)), (.ref t)] _
        refine XS.iconst X63.here hx rfl (hb hby d10_36) ?_
        refine XS.isub X63.here hx rfl (hb hby d10_37) rfl ?_
        refine st64 _ ?_
        show own_S p e below T64 m 41 #[rv a1, iv p2, iv (1 : Int32)] [] _
        refine XS.aloadN X64.here hx rfl (hb hby d10_41) rfl rfl ?_
        refine XS.dup X64.here hx rfl (hb hby d10_42) rfl rfl ?_
        refine st66 _ ?_
        show own_S p e below T66 m 46 #[rv a1, iv p2, iv (1 : Int32)] [(.int (3 : Int32)), (.ref a1)] _
        refine XS.iconst X66.here hx rfl (hb hby d10_46) ?_
        refine XS.isub X66.here hx rfl (hb hby d10_47) rfl ?_
        refine st68 _ ?_
        show own_S p e below T68 m 51 #[rv a1, iv p2, iv (1 : Int32)] [] _
        refine XS.aloadN X68.here hx rfl (hb hby d10_51) rfl rfl ?_
        exact k)
      obtain ⟨fs, hr, hrun, hended, hW, hsame⟩ := X68.leave (v := some (.ref a1)) (fun h => by rw [Bd.returns] at h; cases h)
      refine ⟨_, _, pre69 _ ?_, hrun, hended, _, _, rfl, ?_, ⟨_, rfl⟩, hW, hsame.mono (by decide) (by decide)⟩
      · show own_S p e below T68 m 52 #[rv a1, iv p2, iv (1 : Int32)] [(.ref a1)] _
        exact retOut X68 hx (t := (.object "com/example/bitstrata/bitstrata/Container")) Bd.returns rfl (Or.inr (Or.inr (Or.inr (Or.inr ⟨rfl, rfl, rfl⟩)))) (hb hby d10_52) hr
      · show QRem Z a1 p2 t k [x0, x1, x2] h0 n0 _ T68.heap _
        rw [e68]
        have En_70 := (En_67.wr W68)
        have Fn_71 := ((F_v.keep K64 (ninS (Ne.symm hne) nin0)).other W68 (Or.inr (slot_ne (Or.inl (hw _ (List.mem_of_getElem? (i := 11) rfl))) (Or.inl (hw _ (List.mem_of_getElem? (i := 13) rfl))) (by decide) (t := (.array .char)) (t' := .int) (by decide) (by decide))))
        have Vn_72 := (V64.other W68 hne)
        refine ⟨[x0, x2], [(.int x0), (.int x2), (.int x2), (.int (0 : Int32))], rfl, N68, (((Keep.refl h0 [a1, t]).trans K64 (allS (Or.inl (List.mem_of_getElem? (i := 1) rfl)) all0)).wr W68 (Or.inl (List.mem_of_getElem? (i := 0) rfl))), En_70, Fn_71, Fw68, Vn_72, ?_, ?_, ?_, ?_, ?_⟩
        · exact Nat.le_of_ble_eq_true rfl
        · intro i hi
          match i, hi with
          | 0, _ => rfl
          | 1, _ => rfl
        · exact ⟨(by first | assumption | exact own_tr (by assumption) (by assumption)), trivial⟩
        · intro x hx; exact hch x (by simp only [List.mem_cons, List.not_mem_nil, or_false] at hx ⊢; rcases hx with hx | hx <;> simp [*])
        · intro x; simp only [List.mem_cons, List.not_mem_nil, or_false]
          constructor
          · intro h; rcases h with rfl | rfl <;> simp [*]
          · intro h; obtain ⟨h, g⟩ := h; rcases h with rfl | rfl | rfl
            · simp
            · exact absurd q0 g
            · simp
    ·  -- case
      have ne0 : ¬ x0 = p2 := fun q => by rw [← q0] at q; exact own_irr _ (q ▸ (own_tr s01 s12))
      have ne1 : ¬ x1 = p2 := fun q => by rw [← q0] at q; exact own_irr _ (q ▸ s12)
      obtain ⟨T73, X73, e73, st73⟩ := getF X47 hx hZ hown (host := "") (Or.inl (hw _ (List.mem_of_getElem? (i := 10) rfl))) Via.refl e47 F_v (g := (mkF m 19 #[rv a1, iv p2, iv (2 : Int32)] [(.ref a1)])) rfl rfl (hb hby d10_19)
      obtain ⟨T74, X74, e74, st74⟩ := getF X73 hx hZ hown (host := "") (Or.inl (hw _ (List.mem_of_getElem? (i := 10) rfl))) Via.refl e73 F_v (g := (mkF m 26 #[rv a1, iv p2, iv (2 : Int32)] [(.ref a1), (.int (3 : Int32)), (.ref t)])) rfl rfl (hb hby d10_26)
      obtain ⟨T75, X75, e75, st75⟩ := getF X74 hx hZ hown (host := "") (Or.inl (hw _ (List.mem_of_getElem? (i := 12) rfl))) Via.refl e74 F_c' (g := (mkF m 31 #[rv a1, iv p2, iv (2 : Int32)] [(.ref a1), (.int (2 : Int32)), (.ref t), (.int (3 : Int32)), (.ref t)])) rfl rfl (hb hby d10_31)
      obtain ⟨T76, h76, L76, X76, e76, N76, K76, Vc76, st76⟩ := cpA X75 hx hZ hown (hw _ (List.mem_of_getElem? (i := 48) rfl)) (hw _ (List.mem_of_getElem? (i := 51) rfl)) (hw _ (List.mem_of_getElem? (i := 49) rfl)) (hw _ (List.mem_of_getElem? (i := 50) rfl)) e75 (us := []) (sp := (3 : Int32)) (dp := (2 : Int32)) (nn := (0 : Int32)) V_t' V_t' (Or.inl ⟨rfl, rfl⟩) (by decide) (by decide) (by decide) (by decide) (by decide) rfl (Nat.le_of_ble_eq_true rfl) N47 g_t (g := (mkF m 38 #[rv a1, iv p2, iv (2 : Int32)] [(.int (0 : Int32)), (.int (2 : Int32)), (.ref t), (.int (3 : Int32)), (.ref t)])) rfl (by rw [hml]; rfl) rfl (hb hby d10_38) (by decide) (W := 0) (by show 2 * 0 + _ ≤ _; exact Nat.le_of_eq rfl) (by decide)
      have V76 : Arv Z h76 t k .char (4 : Int32) [(.int x0), (.int x1), (.int x2), (.int (0 : Int32))] (.int (0 : Int32)) := Vc76
      have Fn_77 := (F_c'.keep K76 (ninS (Ne.symm hne) nin0))
      obtain ⟨T78, X78, e78, st78⟩ := getF X76 hx hZ hown (host := "") (Or.inl (hw _ (List.mem_of_getElem? (i := 12) rfl))) Via.refl e76 Fn_77 (g := (mkF m 43 #[rv a1, iv p2, iv (2 : Int32)] [(.ref a1), (.ref a1)])) rfl rfl (hb hby d10_43)
      have En_79 := (E_a1.keep K76)
      obtain ⟨T80, h80, X80, e80, W80, st80⟩ := putF X78 hx hZ hown (host := "") (Or.inl (hw _ (List.mem_of_getElem? (i := 12) rfl))) Via.refl e78 Fn_77 En_79 (Or.inl (hw _ (List.mem_of_getElem? (i := 13) rfl))) (hw _ (List.mem_of_getElem? (i := 1) rfl)) (ty := .int) (by decide) rfl rfl (g := (mkF m 48 #[rv a1, iv p2, iv (2 : Int32)] [(.int (2 : Int32)), (.ref a1)])) rfl rfl (hb hby d10_48)
      have Fw80 := Fn_77.same W80
      have N80 := Fr.snoc X80 N76 g_a1
      have pre81 : ∀ tg, own_S p e below T80 m 52 #[rv a1, iv p2, iv (2 : Int32)] [(.ref a1)] tg → Steps p.tables e below (s₁.setTop (entryFrame m #[(.ref a1), (.int p2)] 3)) tg := fun tg k => pre48 tg (by
        show own_S p e below T47 m 13 #[rv a1, iv p2, .unset] [(.int (2 : Int32))] _
        refine XS.istoreN X47.here hx rfl (hb hby d10_13) rfl (l' := #[rv a1, iv p2, iv (2 : Int32)]) rfl ?_
        refine XS.iloadN X47.here hx rfl (hb hby d10_14) rfl ?_
        refine XS.ifNo X47.here hx rfl (hb hby d10_15) rfl ((if0 _ _).trans (flt (by decide : ¬ ((2 : Int32) < (0 : Int32)))).1) ?_
        show own_S p e below T47 m 18 #[rv a1, iv p2, iv (2 : Int32)] [] _
        refine XS.aloadN X47.here hx rfl (hb hby d10_18) rfl rfl ?_
        refine st73 _ ?_
        refine XS.iloadN X73.here hx rfl (hb hby d10_22) rfl ?_
        show own_S p e below T73 m 23 #[rv a1, iv p2, iv (2 : Int32)] [(.int (2 : Int32)), (.ref t)] _
        refine XS.iconst X73.here hx rfl (hb hby d10_23) ?_
        refine XS.iadd X73.here hx rfl (hb hby d10_24) rfl ?_
        refine XS.aloadN X73.here hx rfl (hb hby d10_25) rfl rfl ?_
        show own_S p e below T73 m 26 #[rv a1, iv p2, iv (2 : Int32)] [(.ref a1), (.int (3 : Int32)), (.ref t)] _
        refine st74 _ ?_
        refine XS.iloadN X74.here hx rfl (hb hby d10_29) rfl ?_
        refine XS.aloadN X74.here hx rfl (hb hby d10_30) rfl rfl ?_
        show own_S p e below T74 m 31 #[rv a1, iv p2, iv (2 : Int32)] [(.ref a1), (.int (2 : Int32)), (.ref t), (.int (3 : Int32)), (.ref t)] _
        refine st75 _ ?_
        refine XS.iloadN X75.here hx rfl (hb hby d10_34) rfl ?_
        refine XS.isub X75.here hx rfl (hb hby d10_35) rfl ?_
        show own_S p e below T75 m 36 #[rv a1, iv p2, iv (2 : Int32)] [(.int (1 : Int32)), (.int (2 : Int32)), (.ref t), (.int (3 : Int32)), (.ref t)] _
        refine XS.iconst X75.here hx rfl (hb hby d10_36) ?_
        refine XS.isub X75.here hx rfl (hb hby d10_37) rfl ?_
        refine st76 _ ?_
        show own_S p e below T76 m 41 #[rv a1, iv p2, iv (2 : Int32)] [] _
        refine XS.aloadN X76.here hx rfl (hb hby d10_41) rfl rfl ?_
        refine XS.dup X76.here hx rfl (hb hby d10_42) rfl rfl ?_
        refine st78 _ ?_
        show own_S p e below T78 m 46 #[rv a1, iv p2, iv (2 : Int32)] [(.int (3 : Int32)), (.ref a1)] _
        refine XS.iconst X78.here hx rfl (hb hby d10_46) ?_
        refine XS.isub X78.here hx rfl (hb hby d10_47) rfl ?_
        refine st80 _ ?_
        show own_S p e below T80 m 51 #[rv a1, iv p2, iv (2 : Int32)] [] _
        refine XS.aloadN X80.here hx rfl (hb hby d10_51) rfl rfl ?_
        exact k)
      obtain ⟨fs, hr, hrun, hended, hW, hsame⟩ := X80.leave (v := some (.ref a1)) (fun h => by rw [Bd.returns] at h; cases h)
      refine ⟨_, _, pre81 _ ?_, hrun, hended, _, _, rfl, ?_, ⟨_, rfl⟩, hW, hsame.mono (by decide) (by decide)⟩
      · show own_S p e below T80 m 52 #[rv a1, iv p2, iv (2 : Int32)] [(.ref a1)] _
        exact retOut X80 hx (t := (.object "com/example/bitstrata/bitstrata/Container")) Bd.returns rfl (Or.inr (Or.inr (Or.inr (Or.inr ⟨rfl, rfl, rfl⟩)))) (hb hby d10_52) hr
      · show QRem Z a1 p2 t k [x0, x1, x2] h0 n0 _ T80.heap _
        rw [e80]
        have En_82 := (En_79.wr W80)
        have Fn_83 := ((F_v.keep K76 (ninS (Ne.symm hne) nin0)).other W80 (Or.inr (slot_ne (Or.inl (hw _ (List.mem_of_getElem? (i := 11) rfl))) (Or.inl (hw _ (List.mem_of_getElem? (i := 13) rfl))) (by decide) (t := (.array .char)) (t' := .int) (by decide) (by decide))))
        have Vn_84 := (V76.other W80 hne)
        refine ⟨[x0, x1], [(.int x0), (.int x1), (.int x2), (.int (0 : Int32))], rfl, N80, (((Keep.refl h0 [a1, t]).trans K76 (allS (Or.inl (List.mem_of_getElem? (i := 1) rfl)) all0)).wr W80 (Or.inl (List.mem_of_getElem? (i := 0) rfl))), En_82, Fn_83, Fw80, Vn_84, ?_, ?_, ?_, ?_, ?_⟩
        · exact Nat.le_of_ble_eq_true rfl
        · intro i hi
          match i, hi with
          | 0, _ => rfl
          | 1, _ => rfl
        · exact ⟨(by first | assumption | exact own_tr (by assumption) (by assumption)), trivial⟩
        · intro x hx; exact hch x (by simp only [List.mem_cons, List.not_mem_nil, or_false] at hx ⊢; rcases hx with hx | hx <;> simp [*])
        · intro x; simp only [List.mem_cons, List.not_mem_nil, or_false]
          constructor
          · intro h; rcases h with rfl | rfl <;> simp [*]
          · intro h; obtain ⟨h, g⟩ := h; rcases h with rfl | rfl | rfl
            · simp
            · simp
            · exact absurd q0 g
    ·  -- case
      exfalso
      simp only [List.mem_cons, List.not_mem_nil, or_false] at hmem
      rcases hmem with q | q | q
      · exact own_irr _ (q ▸ q0)
      · exact own_irr _ (q ▸ (own_tr q0 s01))
      · exact own_irr _ (q ▸ (own_tr (own_tr q0 s01) s12))
    ·  -- case
      exfalso
      simp only [List.mem_cons, List.not_mem_nil, or_false] at hmem
      rcases hmem with q | q | q
      · exact own_irr _ (q ▸ q0)
      · exact own_irr _ (q ▸ q1)
      · exact own_irr _ (q ▸ (own_tr q1 s12))
    ·  -- case
      exfalso
      simp only [List.mem_cons, List.not_mem_nil, or_false] at hmem
      rcases hmem with q | q | q
      · exact own_irr _ (q ▸ (own_tr s01 q0))
      · exact own_irr _ (q ▸ q0)
      · exact own_irr _ (q ▸ q1)
    ·  -- case
      exfalso
      simp only [List.mem_cons, List.not_mem_nil, or_false] at hmem
      rcases hmem with q | q | q
      · exact own_irr _ (q ▸ (own_tr s01 (own_tr s12 q0)))
      · exact own_irr _ (q ▸ (own_tr s12 q0))
      · exact own_irr _ (q ▸ q0)
  ·  -- case
    obtain ⟨x0, x1, x2, x3, rfl⟩ := own_len4 hl
    have F_c' : Fld Z h0 a1 "com/example/bitstrata/bitstrata/ArrayContainer" "cardinality" "I" (.int (4 : Int32)) := F_c
    have V_t' : Arv Z h0 t k .char (4 : Int32) [(.int x0), (.int x1), (.int x2), (.int x3)] (.int (0 : Int32)) := V_t
    have s01 : x0 < x1 := hs.1
    have s12 : x1 < x2 := hs.2.1
    have s23 : x2 < x3 := hs.2.2.1
    obtain ⟨T85, X85, e85, st85⟩ := getF X0 hx hZ hown (host := "") (Or.inl (hw _ (List.mem_of_getElem? (i := 10) rfl))) Via.refl e0 F_v (g := (mkF m 1 #[rv a1, iv p2, .unset] [(.ref a1)])) rfl rfl (hb hby d10_1)
    obtain ⟨T86, X86, e86, st86⟩ := getF X85 hx hZ hown (host := "") (Or.inl (hw _ (List.mem_of_getElem? (i := 12) rfl))) Via.refl e85 F_c' (g := (mkF m 6 #[rv a1, iv p2, .unset] [(.ref a1), (.int (0 : Int32)), (.ref t)])) rfl rfl (hb hby d10_6)
    obtain ⟨_, _, ⟨T87, L87, k87, n87⟩, -, X87, ⟨Lc87, hQ87, l87, y87, z87⟩, st87⟩ := Jvm.LawKit.callS X86 hx (y := (⟨"java/util/Arrays", "binarySearch", "([CIIC)I"⟩ : MethodName)) hown (mvT hZ (hw _ (List.mem_of_getElem? (i := 38) rfl))) (mvT hZ (hw _ (List.mem_of_getElem? (i := 39) rfl))) (mvT hZ (hw _ (List.mem_of_getElem? (i := 40) rfl))) (mvT hZ (hw _ (List.mem_of_getElem? (i := 41) rfl))) (by decide) (backOf (W := 0) (rmS4 l Z a0 hw [] t p2 k x0 x1 x2 x3 h0 n0 Z0 V_t') hZ (hw _ (List.mem_of_getElem? (i := 41) rfl)) (hw _ (List.mem_of_getElem? (i := 40) rfl)) (by decide) (by decide)) (g := (mkF m 10 #[rv a1, iv p2, .unset] [(.int p2), (.int (4 : Int32)), (.int (0 : Int32)), (.ref t)])) rfl (by rw [hml]; rfl) (argsL := [(.ref t), (.int (0 : Int32)), (.int (4 : Int32)), (.int p2)]) (rest := []) (lenOf pd_1 rfl) rfl (by show 2 * 0 + _ ≤ _; exact Nat.le_of_eq rfl) (hb hby d10_10) (fun _ _ => ⟨rfl, e86, (by decide : 0 + 0 ≤ _), (by decide : 0 + 0 ≤ _)⟩)
    dsimp only [Pt.U, Pt.locs, Pt.cells, Pt.slots] at X87 l87 y87 z87 st87 hQ87
    subst l87 y87 z87
    obtain ⟨r87, rfl, N87q, e87q, hD87⟩ := hQ87
    have N87 := Fr.app N0 N87q
    have e87 : T87.heap = h0 := e87q
    have pre88 : ∀ tg, own_S p e below T87 m 13 #[rv a1, iv p2, .unset] [(.int r87)] tg → Steps p.tables e below (s₁.setTop (entryFrame m #[(.ref a1), (.int p2)] 3)) tg := fun tg k => pre0 tg (by
      show own_S p e below s₁ m 0 #[rv a1, iv p2, .unset] [] _
      refine XS.aloadN X0.here hx rfl (hb hby d10_0) rfl rfl ?_
      refine st85 _ ?_
      refine XS.iconst X85.here hx rfl (hb hby d10_4) ?_
      show own_S p e below T85 m 5 #[rv a1, iv p2, .unset] [(.int (0 : Int32)), (.ref t)] _
      refine XS.aloadN X85.here hx rfl (hb hby d10_5) rfl rfl ?_
      refine st86 _ ?_
      refine XS.iloadN X86.here hx rfl (hb hby d10_9) rfl ?_
      show own_S p e below T86 m 10 #[rv a1, iv p2, .unset] [(.int p2), (.int (4 : Int32)), (.int (0 : Int32)), (.ref t)] _
      refine st87 _ ?_
      exact k)
    rcases hD87 with ⟨rfl, q0⟩ | ⟨rfl, q0⟩ | ⟨rfl, q0⟩ | ⟨rfl, q0⟩ | ⟨rfl, q0⟩ | ⟨rfl, q0, q1⟩ | ⟨rfl, q0, q1⟩ | ⟨rfl, q0, q1⟩ | ⟨rfl, q0⟩
    ·  -- case
      have ne1 : ¬ x1 = p2 := fun q => by rw [← q0] at q; exact own_irr _ (q ▸ s01)
      have ne2 : ¬ x2 = p2 := fun q => by rw [← q0] at q; exact own_irr _ (q ▸ (own_tr s01 s12))
      have ne3 : ¬ x3 = p2 := fun q => by rw [← q0] at q; exact own_irr _ (q ▸ (own_tr (own_tr s01 s12) s23))
      obtain ⟨T89, X89, e89, st89⟩ := getF X87 hx hZ hown (host := "") (Or.inl (hw _ (List.mem_of_getElem? (i := 10) rfl))) Via.refl e87 F_v (g := (mkF m 19 #[rv a1, iv p2, iv (0 : Int32)] [(.ref a1)])) rfl rfl (hb hby d10_19)
      obtain ⟨T90, X90, e90, st90⟩ := getF X89 hx hZ hown (host := "") (Or.inl (hw _ (List.mem_of_getElem? (i := 10) rfl))) Via.refl e89 F_v (g := (mkF m 26 #[rv a1, iv p2, iv (0 : Int32)] [(.ref a1), (.int (1 : Int32)), (.ref t)])) rfl rfl (hb hby d10_26)
      obtain ⟨T91, X91, e91, st91⟩ := getF X90 hx hZ hown (host := "") (Or.inl (hw _ (List.mem_of_getElem? (i := 12) rfl))) Via.refl e90 F_c' (g := (mkF m 31 #[rv a1, iv p2, iv (0 : Int32)] [(.ref a1), (.int (0 : Int32)), (.ref t), (.int (1 : Int32)), (.ref t)])) rfl rfl (hb hby d10_31)
      obtain ⟨T92, h92, L92, X92, e92, N92, K92, Vc92, st92⟩ := cpA X91 hx hZ hown (hw _ (List.mem_of_getElem? (i := 48) rfl)) (hw _ (List.mem_of_getElem? (i := 51) rfl)) (hw _ (List.mem_of_getElem? (i := 49) rfl)) (hw _ (List.mem_of_getElem? (i := 50) rfl)) e91 (us := [(.int x1), (.int x2), (.int x3)]) (sp := (1 : Int32)) (dp := (0 : Int32)) (nn := (3 : Int32)) V_t' V_t' (Or.inl ⟨rfl, rfl⟩) (by decide) (by decide) (by decide) (by decide) (by decide) rfl (Nat.le_of_ble_eq_true rfl) N87 g_t (g := (mkF m 38 #[rv a1, iv p2, iv (0 : Int32)] [(.int (3 : Int32)), (.int (0 : Int32)), (.ref t), (.int (1 : Int32)), (.ref t)])) rfl (by rw [hml]; rfl) rfl (hb hby d10_38) (by decide) (W := 0) (by show 2 * 0 + _ ≤ _; exact Nat.le_of_eq rfl) (by decide)
      have V92 : Arv Z h92 t k .char (4 : Int32) [(.int x1), (.int x2), (.int x3), (.int x3)] (.int (0 : Int32)) := Vc92
      have Fn_93 := (F_c'.keep K92 (ninS (Ne.symm hne) nin0))
      obtain ⟨T94, X94, e94, st94⟩ := getF X92 hx hZ hown (host := "") (Or.inl (hw _ (List.mem_of_getElem? (i := 12) rfl))) Via.refl e92 Fn_93 (g := (mkF m 43 #[rv a1, iv p2, iv (0 : Int32)] [(.ref a1), (.ref a1)])) rfl rfl (hb hby d10_43)
      have En_95 := (E_a1.keep K92)
      obtain ⟨T96, h96, X96, e96, W96, st96⟩ := putF X94 hx hZ hown (host := "") (Or.inl (hw _ (List.mem_of_getElem? (i := 12) rfl))) Via.refl e94 Fn_93 En_95 (Or.inl (hw _ (List.mem_of_getElem? (i := 13) rfl))) (hw _ (List.mem_of_getElem? (i := 1) rfl)) (ty := .int) (by decide) rfl rfl (g := (mkF m 48 #[rv a1, iv p2, iv (0 : Int32)] [(.int (3 : Int32)), (.ref a1)])) rfl rfl (hb hby d10_48)
      have Fw96 := Fn_93.same W96
      have N96 := Fr.snoc X96 N92 g_a1
      have pre97 : ∀ tg, own_S p e below T96 m 52 #[rv a1, iv p2, iv (0 : Int32)] [(.ref a1)] tg → Steps p.tables e below (s₁.setTop (entryFrame m #[(.ref a1), (.int p2)] 3)) tg := fun tg k => pre88 tg (by
        show own_S p e below T87 m 13 #[rv a1, iv p2, .unset] [(.int (0 : Int32))] _
        refine XS.istoreN X87.here hx rfl (hb hby d10_13) rfl (l' := #[rv a1, iv p2, iv (0 : Int32)]) rfl ?_
        refine XS.iloadN X87.here hx rfl (hb hby d10_14) rfl ?_
        refine XS.ifNo X87.here hx rfl (hb hby d10_15) rfl ((if0 _ _).trans (flt (by decide : ¬ ((0 : Int32) < (0 : Int32)))).1) ?_
        show own_S p e below T87 m 18 #[rv a1, iv p2, iv (0 : Int32)] [] _
        refine XS.aloadN X87.here hx rfl (hb hby d10_18) rfl rfl ?_
        refine st89 _ ?_
        refine XS.iloadN X89.here hx rfl (hb hby d10_22) rfl ?_
        show own_S p e below T89 m 23 #[rv a1, iv p2, iv (0 : Int32)] [(.int (0 : Int32)), (.ref t)] _
        refine XS.iconst X89.here hx rfl (hb hby d10_23) ?_
        refine XS.iadd X89.here hx rfl (hb hby d10_24) rfl ?_
        refine XS.aloadN X89.here hx rfl (hb hby d10_25) rfl rfl ?_
        show own_S p e below T89 m 26 #[rv a1, iv p2, iv (0 : Int32)] [(.ref a1), (.int (1 : Int32)), (.ref t)] _
        refine st90 _ ?_
        refine XS.iloadN X90.here hx rfl (hb hby d10_29) rfl ?_
        refine XS.aloadN X90.here hx rfl (hb hby d10_30) rfl rfl ?_
        show own_S p e below T90 m 31 #[rv a1, iv p2, iv (0 : Int32)] [(.ref a1), (.int (0 : Int32)), (.ref t), (.int (1 : Int32)), (.ref t)] _
        refine st91 _ ?_
        refine XS.iloadN X91.here hx rfl (hb hby d10_34) rfl ?_
        refine XS.isub X91.here hx rfl (hb hby d10_35) rfl ?_
        show own_S p e below T91 m 36 #[rv a1, iv p2, iv (0 : Int32)] [(.int (4 : Int32)), (.int (0 : Int32)), (.ref t), (.int (1 : Int32)), (.ref t)] _
        refine XS.iconst X91.here hx rfl (hb hby d10_36) ?_
        refine XS.isub X91.here hx rfl (hb hby d10_37) rfl ?_
        refine st92 _ ?_
        show own_S p e below T92 m 41 #[rv a1, iv p2, iv (0 : Int32)] [] _
        refine XS.aloadN X92.here hx rfl (hb hby d10_41) rfl rfl ?_
        refine XS.dup X92.here hx rfl (hb hby d10_42) rfl rfl ?_
        refine st94 _ ?_
        show own_S p e below T94 m 46 #[rv a1, iv p2, iv (0 : Int32)] [(.int (4 : Int32)), (.ref a1)] _
        refine XS.iconst X94.here hx rfl (hb hby d10_46) ?_
        refine XS.isub X94.here hx rfl (hb hby d10_47) rfl ?_
        refine st96 _ ?_
        show own_S p e below T96 m 51 #[rv a1, iv p2, iv (0 : Int32)] [] _
        refine XS.aloadN X96.here hx rfl (hb hby d10_51) rfl rfl ?_
        exact k)
      obtain ⟨fs, hr, hrun, hended, hW, hsame⟩ := X96.leave (v := some (.ref a1)) (fun h => by rw [Bd.returns] at h; cases h)
      refine ⟨_, _, pre97 _ ?_, hrun, hended, _, _, rfl, ?_, ⟨_, rfl⟩, hW, hsame.mono (by decide) (by decide)⟩
      · show own_S p e below T96 m 52 #[rv a1, iv p2, iv (0 : Int32)] [(.ref a1)] _
        exact retOut X96 hx (t := (.object "com/example/bitstrata/bitstrata/Container")) Bd.returns rfl (Or.inr (Or.inr (Or.inr (Or.inr ⟨rfl, rfl, rfl⟩)))) (hb hby d10_52) hr
      · show QRem Z a1 p2 t k [x0, x1, x2, x3] h0 n0 _ T96.heap _
        rw [e96]
        have En_98 := (En_95.wr W96)
        have Fn_99 := ((F_v.keep K92 (ninS (Ne.symm hne) nin0)).other W96 (Or.inr (slot_ne (Or.inl (hw _ (List.mem_of_getElem? (i := 11) rfl))) (Or.inl (hw _ (List.mem_of_getElem? (i := 13) rfl))) (by decide) (t := (.array .char)) (t' := .int) (by decide) (by decide))))
        have Vn_100 := (V92.other W96 hne)
        refine ⟨[x1, x2, x3], [(.int x1), (.int x2), (.int x3), (.int x3)], rfl, N96, (((Keep.refl h0 [a1, t]).trans K92 (allS (Or.inl (List.mem_of_getElem? (i := 1) rfl)) all0)).wr W96 (Or.inl (List.mem_of_getElem? (i := 0) rfl))), En_98, Fn_99, Fw96, Vn_100, ?_, ?_, ?_, ?_, ?_⟩
        · exact Nat.le_of_ble_eq_true rfl
        · intro i hi
          match i, hi with
          | 0, _ => rfl
          | 1, _ => rfl
          | 2, _ => rfl
        · exact ⟨(by first | assumption | exact own_tr (by assumption) (by assumption)), (by first | assumption | exact own_tr (by assumption) (by assumption)), trivial⟩
        · intro x hx; exact hch x (by simp only [List.mem_cons, List.not_mem_nil, or_false] at hx ⊢; rcases hx with hx | hx | hx <;> simp [*])
        · intro x; simp only [List.mem_cons, List.not_mem_nil, or_false]
          constructor
          · intro h; rcases h with rfl | rfl | rfl <;> simp [*]
          · intro h; obtain ⟨h, g⟩ := h; rcases h with rfl | rfl | rfl | rfl
            · exact absurd q0 g
            · simp
            · simp
            · simp
    ·  -- case
      have ne0 : ¬ x0 = p2 := fun q => by rw [← q0] at q; exact own_irr _ (q ▸ s01)
      have ne2 : ¬ x2 = p2 := fun q => by rw [← q0] at q; exact own_irr _ (q ▸ s12)
      have ne3 : ¬ x3 = p2 := fun q => by rw [← q0] at q; exact own_irr _ (q ▸ (own_tr s12 s23))
      obtain ⟨T101, X101, e101, st101⟩ := getF X87 hx hZ hown (host := "") (Or.inl (hw _ (List.mem_of_getElem? (i := 10) rfl))) Via.refl e87 F_v (g := (mkF m 19 #[rv a1, iv p2, iv (1 : Int32)] [(.ref a1)])) rfl rfl (hb hby d10_19)
      obtain ⟨T102, X102, e102, st102⟩ := getF X101 hx hZ hown (host := "") (Or.inl (hw _ (List.mem_of_getElem? (i := 10) rfl))) Via.refl e101 F_v (g := (mkF m 26 #[rv a1, iv p2, iv (1 : Int32)] [(.ref a1), (.int (2 : Int32)), (.ref t)])) rfl rfl (hb hby d10_26)
      obtain ⟨T103, X103, e103, st103⟩ := getF X102 hx hZ hown (host := "") (Or.inl (hw _ (List.mem_of_getElem? (i := 12) rfl))) Via.refl e102 F_c' (g := (mkF m 31 #[rv a1, iv p2, iv (1 : Int32)] [(.ref a1), (.int (1 : Int32)), (.ref t), (.int (2 : Int32)), (.ref t)])) rfl rfl (hb hby d10_31)
      obtain ⟨T104, h104, L104, X104, e104, N104, K104, Vc104, st104⟩ := cpA X103 hx hZ hown (hw _ (List.mem_of_getElem? (i := 48) rfl)) (hw _ (List.mem_of_getElem? (i := 51) rfl)) (hw _ (List.mem_of_getElem? (i := 49) rfl)) (hw _ (List.mem_of_getElem? (i := 50) rfl)) e103 (us := [(.int x2), (.int x3)]) (sp := (2 : Int32)) (dp := (1 : Int32)) (nn := (2 : Int32)) V_t' V_t' (Or.inl ⟨rfl, rfl⟩) (by decide) (by decide) (by decide) (by decide) (by decide) rfl (Nat.le_of_ble_eq_true rfl) N87 g_t (g := (mkF m 38 #[rv a1, iv p2, iv (1 : Int32)] [(.int (2 : Int32)), (.int (1 : Int32)), (.ref t), (.int (2 : Int32)), (.ref t)])) rfl (by rw [hml]; rfl) rfl (hb hby d10_38) (by decide) (W := 0) (by show 2 * 0 + _ ≤ _; exact Nat.le_of_eq rfl) (by decide)
      have V104 : Arv Z h104 t k .char (4 : Int32) [(.int x0), (.int x2), (.int x3), (.int x3)] (.int (0 : Int32)) := Vc104
      have Fn_105 := (F_c'.keep K104 (ninS (Ne.symm hne) nin0))
      obtain ⟨T106, X106, e106, st106⟩ := getF X104 hx hZ hown (host := "") (Or.inl (hw _ (List.mem_of_getElem? (i := 12) rfl))) Via.refl e104 Fn_105 (g := (mkF m 43 #[rv a1, iv p2, iv (1 : Int32)] [(.ref a1), (.ref a1)])) rfl rfl (hb hby d10_43)
      have En_107 := (E_a1.keep K104)
      obtain ⟨T108, h108, X108, e108, W108, st108⟩ := putF X106 hx hZ hown (host := "") (Or.inl (hw _ (List.mem_of_getElem? (i := 12) rfl))) Via.refl e106 Fn_105 En_107 (Or.inl (hw _ (List.mem_of_getElem? (i := 13) rfl))) (hw _ (List.mem_of_getElem? (i := 1) rfl)) (ty := .int) (by decide) rfl rfl (g := (mkF m 48 #[rv a1, iv p2, iv (1 : Int32)] [(.int (3 : Int32)), (.ref a1)])) rfl rfl (hb hby d10_48)
      have Fw108 := Fn_105.same W108
      have N108 := Fr.snoc X108 N104 g_a1
      have pre109 : ∀ tg, own_S p e below T108 m 52 #[rv a1, iv p2, iv (1 : Int32)] [(.ref a1)] tg → Steps p.tables e below (s₁.setTop (entryFrame m #[(.ref a1), (.int p2)] 3)) tg := fun tg k => pre88 tg (by
        show own_S p e below T87 m 13 #[rv a1, iv p2, .unset] [(.int (1 : Int32))] _
        refine XS.istoreN X87.here hx rfl (hb hby d10_13) rfl (l' := #[rv a1, iv p2, iv (1 : Int32)]) rfl ?_
        refine XS.iloadN X87.here hx rfl (hb hby d10_14) rfl ?_
        refine XS.ifNo X87.here hx rfl (hb hby d10_15) rfl ((if0 _ _).trans (flt (by decide : ¬ ((1 : Int32) < (0 : Int32)))).1) ?_
        show own_S p e below T87 m 18 #[rv a1, iv p2, iv (1 : Int32)] [] _
        refine XS.aloadN X87.here hx rfl (hb hby d10_18) rfl rfl ?_
        refine st101 _ ?_
        refine XS.iloadN X101.here hx rfl (hb hby d10_22) rfl ?_
        show own_S p e below T101 m 23 #[rv a1, iv p2, iv (1 : Int32)] [(.int (1 : Int32)), (.ref t)] _
        refine XS.iconst X101.here hx rfl (hb hby d10_23) ?_
        refine XS.iadd X101.here hx rfl (hb hby d10_24) rfl ?_
        refine XS.aloadN X101.here hx rfl (hb hby d10_25) rfl rfl ?_
        show own_S p e below T101 m 26 #[rv a1, iv p2, iv (1 : Int32)] [(.ref a1), (.int (2 : Int32)), (.ref t)] _
        refine st102 _ ?_
        refine XS.iloadN X102.here hx rfl (hb hby d10_29) rfl ?_
        refine XS.aloadN X102.here hx rfl (hb hby d10_30) rfl rfl ?_
        show own_S p e below T102 m 31 #[rv a1, iv p2, iv (1 : Int32)] [(.ref a1), (.int (1 : Int32)), (.ref t), (.int (2 : Int32)), (.ref t)] _
        refine st103 _ ?_
        refine XS.iloadN X103.here hx rfl (hb hby d10_34) rfl ?_
        refine XS.isub X103.here hx rfl (hb hby d10_35) rfl ?_
        show own_S p e below T103 m 36 #[rv a1, iv p2, iv (1 : Int32)] [(.int (3 : Int32)), (.int (1 : Int32)), (.ref t), (.int (2 : Int32)), (.ref t)] _
        refine XS.iconst X103.here hx rfl (hb hby d10_36) ?_
        refine XS.isub X103.here hx rfl (hb hby d10_37) rfl ?_
        refine st104 _ ?_
        show own_S p e below T104 m 41 #[rv a1, iv p2, iv (1 : Int32)] [] _
        refine XS.aloadN X104.here hx rfl (hb hby d10_41) rfl rfl ?_
        refine XS.dup X104.here hx rfl (hb hby d10_42) rfl rfl ?_
        refine st106 _ ?_
        show own_S p e below T106 m 46 #[rv a1, iv p2, iv (1 : Int32)] [(.int (4 : Int32)), (.ref a1)] _
        refine XS.iconst X106.here hx rfl (hb hby d10_46) ?_
        refine XS.isub X106.here hx rfl (hb hby d10_47) rfl ?_
        refine st108 _ ?_
        show own_S p e below T108 m 51 #[rv a1, iv p2, iv (1 : Int32)] [] _
        refine XS.aloadN X108.here hx rfl (hb hby d10_51) rfl rfl ?_
        exact k)
      obtain ⟨fs, hr, hrun, hended, hW, hsame⟩ := X108.leave (v := some (.ref a1)) (fun h => by rw [Bd.returns] at h; cases h)
      refine ⟨_, _, pre109 _ ?_, hrun, hended, _, _, rfl, ?_, ⟨_, rfl⟩, hW, hsame.mono (by decide) (by decide)⟩
      · show own_S p e below T108 m 52 #[rv a1, iv p2, iv (1 : Int32)] [(.ref a1)] _
        exact retOut X108 hx (t := (.object "com/example/bitstrata/bitstrata/Container")) Bd.returns rfl (Or.inr (Or.inr (Or.inr (Or.inr ⟨rfl, rfl, rfl⟩)))) (hb hby d10_52) hr
      · show QRem Z a1 p2 t k [x0, x1, x2, x3] h0 n0 _ T108.heap _
        rw [e108]
        have En_110 := (En_107.wr W108)
        have Fn_111 := ((F_v.keep K104 (ninS (Ne.symm hne) nin0)).other W108 (Or.inr (slot_ne (Or.inl (hw _ (List.mem_of_getElem? (i := 11) rfl))) (Or.inl (hw _ (List.mem_of_getElem? (i := 13) rfl))) (by decide) (t := (.array .char)) (t' := .int) (by decide) (by decide))))
        have Vn_112 := (V104.other W108 hne)
        refine ⟨[x0, x2, x3], [(.int x0), (.int x2), (.int x3), (.int x3)], rfl, N108, (((Keep.refl h0 [a1, t]).trans K104 (allS (Or.inl (List.mem_of_getElem? (i := 1) rfl)) all0)).wr W108 (Or.inl (List.mem_of_getElem? (i := 0) rfl))), En_110, Fn_111, Fw108, Vn_112, ?_, ?_, ?_, ?_, ?_⟩
        · exact Nat.le_of_ble_eq_true rfl
        · intro i hi
          match i, hi with
          | 0, _ => rfl
          | 1, _ => rfl
          | 2, _ => rfl
        · exact ⟨(by first | assumption | exact own_tr (by assumption) (by assumption)), (by first | assumption | exact own_tr (by assumption) (by assumption)), trivial⟩
        · intro x hx; exact hch x (by simp only [List.mem_cons, List.not_mem_nil, or_false] at hx ⊢; rcases hx with hx | hx | hx <;> simp [*])
        · intro x; simp only [List.mem_cons, List.not_mem_nil, or_false]
          constructor
          · intro h; rcases h with rfl | rfl | rfl <;> simp [*]
          · intro h; obtain ⟨h, g⟩ := h; rcases h with rfl | rfl | rfl | rfl
            · simp
            · exact absurd q0 g
            · simp
            · simp
    ·  -- case
      have ne0 : ¬ x0 = p2 := fun q => by rw [← q0] at q; exact own_irr _ (q ▸ (own_tr s01 s12))
      have ne1 : ¬ x1 = p2 := fun q => by rw [← q0] at q; exact own_irr _ (q ▸ s12)
      have ne3 : ¬ x3 = p2 := fun q => by rw [← q0] at q; exact own_irr _ (q ▸ s23)
      obtain ⟨T113, X113, e113, st113⟩ := getF X87 hx hZ hown (host := "") (Or.inl (hw _ (List.mem_of_getElem? (i := 10) rfl))) Via.refl e87 F_v (g := (mkF m 19 #[rv a1, iv p2, iv (2 : Int32)] [(.ref a1)])) rfl rfl (hb hby d10_19)
      obtain ⟨T114, X114, e114, st114⟩ := getF X113 hx hZ hown (host := "") (Or.inl (hw _ (List.mem_of_getElem? (i := 10) rfl))) Via.refl e113 F_v (g := (mkF m 26 #[rv a1, iv p2, iv (2 : Int32)] [(.ref a1), (.int (3 : Int32)), (.ref t)])) rfl rfl (hb hby d10_26)
      obtain ⟨T115, X115, e115, st115⟩ := getF X114 hx hZ hown (host := "") (Or.inl (hw _ (List.mem_of_getElem? (i := 12) rfl))) Via.refl e114 F_c' (g := (mkF m 31 #[rv a1, iv p2, iv (2 : Int32)] [(.ref a1), (.int (2 : Int32)), (.ref t), (.int (3 : Int32)), (.ref t)])) rfl rfl (hb hby d10_31)
      obtain ⟨T116, h116, L116, X116, e116, N116, K116, Vc116, st116⟩ := cpA X115 hx hZ hown (hw _ (List.mem_of_getElem? (i := 48) rfl)) (hw _ (List.mem_of_getElem? (i := 51) rfl)) (hw _ (List.mem_of_getElem? (i := 49) rfl)) (hw _ (List.mem_of_getElem? (i := 50) rfl)) e115 (us := [(.int x3)]) (sp := (3 : Int32)) (dp := (2 : Int32)) (nn := (1 : Int32)) V_t' V_t' (Or.inl ⟨rfl, rfl⟩) (by decide) (by decide) (by decide) (by decide) (by decide) rfl (Nat.le_of_ble_eq_true rfl) N87 g_t (g := (mkF m 38 #[rv a1, iv p2, iv (2 : Int32)] [(.int (1 : Int32)), (.int (2 : Int32)), (.ref t), (.int (3 : Int32)), (.ref t)])) rfl (by rw [hml]; rfl) rfl (hb hby d10_38) (by decide) (W := 0) (by show 2 * 0 + _ ≤ _; exact Nat.le_of_eq rfl) (by decide)
      have V116 : Arv Z h116 t k .char (4 : Int32) [(.int x0), (.int x1), (.int x3), (.int x3)] (.int (0 : Int32)) := Vc116
      have Fn_117 := (F_c'.keep K116 (ninS (Ne.symm hne) nin0))
      obtain ⟨T118, X118, e118, st118⟩ := getF X116 hx hZ hown (host := "") (Or.inl (hw _ (List.mem_of_getElem? (i := 12) rfl))) Via.refl e116 Fn_117 (g := (mkF m 43 #[rv a1, iv p2, iv (2 : Int32)] [(.ref a1), (.ref a1)])) rfl rfl (hb hby d10_43)
      have En_119 := (E_a1.keep K116)
      obtain ⟨T120, h120, X120, e120, W120, st120⟩ := putF X118 hx hZ hown (host := "") (Or.inl (hw _ (List.mem_of_getElem? (i := 12) rfl))) Via.refl e118 Fn_117 En_119 (Or.inl (hw _ (List.mem_of_getElem? (i := 13) rfl))) (hw _ (List.mem_of_getElem? (i := 1) rfl)) (ty := .int) (by decide) rfl rfl (g := (mkF m 48 #[rv a1, iv p2, iv (2 : Int32)] [(.int (3 : Int32)), (.ref a1)])) rfl rfl (hb hby d10_48)
      have Fw120 := Fn_117.same W120
      have N120 := Fr.snoc X120 N116 g_a1
      have pre121 : ∀ tg, own_S p e below T120 m 52 #[rv a1, iv p2, iv (2 : Int32)] [(.ref a1)] tg → Steps p.tables e below (s₁.setTop (entryFrame m #[(.ref a1), (.int p2)] 3)) tg := fun tg k => pre88 tg (by
        show own_S p e below T87 m 13 #[rv a1, iv p2, .unset] [(.int (2 : Int32))] _
        refine XS.istoreN X87.here hx rfl (hb hby d10_13) rfl (l' := #[rv a1, iv p2, iv (2 : Int32)]) rfl ?_
        refine XS.iloadN X87.here hx rfl (hb hby d10_14) rfl ?_
        refine XS.ifNo X87.here hx rfl (hb hby d10_15) rfl ((if0 _ _).trans (flt (by decide : ¬ ((2 : Int32) < (0 : Int32)))).1) ?_
        show own_S p e below T87 m 18 #[rv a1, iv p2, iv (2 : Int32)] [] _
        refine XS.aloadN X87.here hx rfl (hb hby d10_18) rfl rfl ?_
        refine st113 _ ?_
        refine XS.iloadN X113.here hx rfl (hb hby d10_22) rfl ?_
        show own_S p e below T113 m 23 #[rv a1, iv p2, iv (2 : Int32)] [(.int (2 : Int32)), (.ref t)] _
        refine XS.iconst X113.here hx rfl (hb hby d10_23) ?_
        refine XS.iadd X113.here hx rfl (hb hby d10_24) rfl ?_
        refine XS.aloadN X113.here hx rfl (hb hby d10_25) rfl rfl ?_
        show own_S p e below T113 m 26 #[rv a1, iv p2, iv (2 : Int32)] [(.ref a1), (.int (3 : Int32)), (.ref t)] _
        refine st114 _ ?_
        refine XS.iloadN X114.here hx rfl (hb hby d10_29) rfl ?_
        refine XS.aloadN X114.here hx rfl (hb hby d10_30) rfl rfl ?_
        show own_S p e below T114 m 31 #[rv a1, iv p2, iv (2 : Int32)] [(.ref a1), (.int (2 : Int32)), (.ref t), (.int (3 : Int32)), (.ref t)] _
        refine st115 _ ?_
        refine XS.iloadN X115.here hx rfl (hb hby d10_34) rfl ?_
        refine XS.isub X115.here hx rfl (hb hby d10_35) rfl ?_
        show own_S p e below T115 m 36 #[rv a1, iv p2, iv (2 : Int32)] [(.int (2 : Int32)), (.int (2 : Int32)), (.ref t), (.int (3 : Int32)), (.ref t)] _
        refine XS.iconst X115.here hx rfl (hb hby d10_36) ?_
        refine XS.isub X115.here hx rfl (hb hby d10_37) rfl ?_
        refine st116 _ ?_
        show own_S p e below T116 m 41 #[rv a1, iv p2, iv (2 : Int32)] [] _
        refine XS.aloadN X116.here hx rfl (hb hby d10_41) rfl rfl ?_
        refine XS.dup X116.here hx rfl (hb hby d10_42) rfl rfl ?_
        refine st118 _ ?_
        show own_S p e below T118 m 46 #[rv a1, iv p2, iv (2 : Int32)] [(.int (4 : Int32)), (.ref a1)] _
        refine XS.iconst X118.here hx rfl (hb hby d10_46) ?_
        refine XS.isub X118.here hx rfl (hb hby d10_47) rfl ?_
        refine st120 _ ?_
        show own_S p e below T120 m 51 #[rv a1, iv p2, iv (2 : Int32)] [] _
        refine XS.aloadN X120.here hx rfl (hb hby d10_51) rfl rfl ?_
        exact k)
      obtain ⟨fs, hr, hrun, hended, hW, hsame⟩ := X120.leave (v := some (.ref a1)) (fun h => by rw [Bd.returns] at h; cases h)
      refine ⟨_, _, pre121 _ ?_, hrun, hended, _, _, rfl, ?_, ⟨_, rfl⟩, hW, hsame.mono (by decide) (by decide)⟩
      · show own_S p e below T120 m 52 #[rv a1, iv p2, iv (2 : Int32)] [(.ref a1)] _
        exact retOut X120 hx (t := (.object "com/example/bitstrata/bitstrata/Container")) Bd.returns rfl (Or.inr (Or.inr (Or.inr (Or.inr ⟨rfl, rfl, rfl⟩)))) (hb hby d10_52) hr
      · show QRem Z a1 p2 t k [x0, x1, x2, x3] h0 n0 _ T120.heap _
        rw [e120]
        have En_122 := (En_119.wr W120)
        have Fn_123 := ((F_v.keep K116 (ninS (Ne.symm hne) nin0)).other W120 (Or.inr (slot_ne (Or.inl (hw _ (List.mem_of_getElem? (i := 11) rfl))) (Or.inl (hw _ (List.mem_of_getElem? (i := 13) rfl))) (by decide) (t := (.array .char)) (t' := .int) (by decide) (by decide))))
        have Vn_124 := (V116.other W120 hne)
        refine ⟨[x0, x1, x3], [(.int x0), (.int x1), (.int x3), (.int x3)], rfl, N120, (((Keep.refl h0 [a1, t]).trans K116 (allS (Or.inl (List.mem_of_getElem? (i := 1) rfl)) all0)).wr W120 (Or.inl (List.mem_of_getElem? (i := 0) rfl))), En_122, Fn_123, Fw120, Vn_124, ?_, ?_, ?_, ?_, ?_⟩
        · exact Nat.le_of_ble_eq_true rfl
        · intro i hi
          match i, hi with
          | 0, _ => rfl
          | 1, _ => rfl
          | 2, _ => rfl
        · exact ⟨(by first | assumption | exact own_tr (by assumption) (by assumption)), (by first | assumption | exact own_tr (by assumption) (by assumption)), trivial⟩
        · intro x hx; exact hch x (by simp only [List.mem_cons, List.not_mem_nil, or_false] at hx ⊢; rcases hx with hx | hx | hx <;> simp [*])
        · intro x; simp only [List.mem_cons, List.not_mem_nil, or_false]
          constructor
          · intro h; rcases h with rfl | rfl | rfl <;> simp [*]
          · intro h; obtain ⟨h, g⟩ := h; rcases h with rfl | rfl | rfl | rfl
            · simp
            · simp
            · exact absurd q0 g
            · simp
    ·  -- case
      have ne0 : ¬ x0 = p2 := fun q => by rw [← q0] at q; exact own_irr _ (q ▸ (own_tr (own_tr s01 s12) s23))
      have ne1 : ¬ x1 = p2 := fun q => by rw [← q0] at q; exact own_irr _ (q ▸ (own_tr s12 s23))
      have ne2 : ¬ x2 = p2 := fun q => by rw [← q0] at q; exact own_irr _ (q ▸ s23)
      obtain ⟨T125, X125, e125, st125⟩ := getF X87 hx hZ hown (host := "") (Or.inl (hw _ (List.mem_of_getElem? (i := 10) rfl))) Via.refl e87 F_v (g := (mkF m 19 #[rv a1, iv p2, iv (3 : Int32)] [(.ref a1)])) rfl rfl (hb hby d10_19)
      obtain ⟨T126, X126, e126, st126⟩ := getF X125 hx hZ hown (host := "") (Or.inl (hw _ (List.mem_of_getElem? (i := 10) rfl))) Via.refl e125 F_v (g := (mkF m 26 #[rv a1, iv p2, iv (3 : Int32)] [(.ref a1), (.int (4 : Int32)), (.ref t)])) rfl rfl (hb hby d10_26)
      obtain ⟨T127, X127, e127, st127⟩ := getF X126 hx hZ hown (host := "") (Or.inl (hw _ (List.mem_of_getElem? (i := 12) rfl))) Via.refl e126 F_c' (g := (mkF m 31 #[rv a1, iv p2, iv (3 : Int32)] [(.ref a1), (.int (3 : Int32)), (.ref t), (.int (4 : Int32)), (.ref t)])) rfl rfl (hb hby d10_31)
      obtain ⟨T128, h128, L128, X128, e128, N128, K128, Vc128, st128⟩ := cpA X127 hx hZ hown (hw _ (List.mem_of_getElem? (i := 48) rfl)) (hw _ (List.mem_of_getElem? (i := 51) rfl)) (hw _ (List.mem_of_getElem? (i := 49) rfl)) (hw _ (List.mem_of_getElem? (i := 50) rfl)) e127 (us := []) (sp := (4 : Int32)) (dp := (3 : Int32)) (nn := (0 : Int32)) V_t' V_t' (Or.inl ⟨rfl, rfl⟩) (by decide) (by decide) (by decide) (by decide) (by decide) rfl (Nat.le_of_ble_eq_true rfl) N87 g_t (g := (mkF m 38 #[rv a1, iv p2, iv (3 : Int32)] [(.int (0 : Int32)), (.int (3 : Int32)), (.ref t), (.int (4 : Int32)), (.ref t)])) rfl (by rw [hml]; rfl) rfl (hb hby d10_38) (by decide) (W := 0) (by show 2 * 0 + _ ≤ _; exact Nat.le_of_eq rfl) (by decide)
      have V128 : Arv Z h128 t k .char (4 : Int32) [(.int x0), (.int x1), (.int x2), (.int x3)] (.int (0 : Int32)) := Vc128
      have Fn_129 := (F_c'.keep K128 (ninS (Ne.symm hne) nin0))
      obtain ⟨T130, X130, e130, st130⟩ := getF X128 hx hZ hown (host := "") (Or.inl (hw _ (List.mem_of_getElem? (i := 12) rfl))) Via.refl e128 Fn_129 (g := (mkF m 43 #[rv a1, iv p2, iv (3 : Int32)] [(.ref a1), (.ref a1)])) rfl rfl (hb hby d10_43)
      have En_131 := (E_a1.keep K128)
      obtain ⟨T132, h132, X132, e132, W132, st132⟩ := putF X130 hx hZ hown (host := "") (Or.inl (hw _ (List.mem_of_getElem? (i := 12) rfl))) Via.refl e130 Fn_129 En_131 (Or.inl (hw _ (List.mem_of_getElem? (i := 13) rfl))) (hw _ (List.mem_of_getElem? (i := 1) rfl)) (ty := .int) (by decide) rfl rfl (g := (mkF m 48 #[rv a1, iv p2, iv (3 : Int32)] [(.int (3 : Int32)), (.ref a1)])) rfl rfl (hb hby d10_48)
      have Fw132 := Fn_129.same W132
      have N132 := Fr.snoc X132 N128 g_a1
      have pre133 : ∀ tg, own_S p e below T132 m 52 #[rv a1, iv p2, iv (3 : Int32)] [(.ref a1)] tg → Steps p.tables e below (s₁.setTop (entryFrame m #[(.ref a1), (.int p2)] 3)) tg := fun tg k => pre88 tg (by
        show own_S p e below T87 m 13 #[rv a1, iv p2, .unset] [(.int (3 : Int32))] _
        refine XS.istoreN X87.here hx rfl (hb hby d10_13) rfl (l' := #[rv a1, iv p2, iv (3 : Int32)]) rfl ?_
        refine XS.iloadN X87.here hx rfl (hb hby d10_14) rfl ?_
        refine XS.ifNo X87.here hx rfl (hb hby d10_15) rfl ((if0 _ _).trans (flt (by decide : ¬ ((3 : Int32) < (0 : Int32)))).1) ?_
        show own_S p e below T87 m 18 #[rv a1, iv p2, iv (3 : Int32)] [] _
        refine XS.aloadN X87.here hx rfl (hb hby d10_18) rfl rfl ?_
        refine st125 _ ?_
        refine XS.iloadN X125.here hx rfl (hb hby d10_22) rfl ?_
        show own_S p e below T125 m 23 #[rv a1, iv p2, iv (3 : Int32)] [(.int (3 : Int32)), (.ref t)] _
        refine XS.iconst X125.here hx rfl (hb hby d10_23) ?_
        refine XS.iadd X125.here hx rfl (hb hby d10_24) rfl ?_
        refine XS.aloadN X125.here hx rfl (hb hby d10_25) rfl rfl ?_
        show own_S p e below T125 m 26 #[rv a1, iv p2, iv (3 : Int32)] [(.ref a1), (.int (4 : Int32)), (.ref t)] _
        refine st126 _ ?_
        refine XS.iloadN X126.here hx rfl (hb hby d10_29) rfl ?_
        refine XS.aloadN X126.here hx rfl (hb hby d10_30) rfl rfl ?_
        show own_S p e below T126 m 31 #[rv a1, iv p2, iv (3 : Int32)] [(.ref a1), (.int (3 : Int32)), (.ref t), (.int (4 : Int32)), (.ref t)] _
        refine st127 _ ?_
        refine XS.iloadN X127.here hx rfl (hb hby d10_34) rfl ?_
        refine XS.isub X127.here hx rfl (hb hby d10_35) rfl ?_
        show own_S p e below T127 m 36 #[rv a1, iv p2, iv (3 : Int32)] [(.int (1 : Int32)), (.int (3 : Int32)), (.ref t), (.int (4 : Int32)), (.ref t)] _
        refine XS.iconst X127.here hx rfl (hb hby d10_36) ?_
        refine XS.isub X127.here hx rfl (hb hby d10_37) rfl ?_
        refine st128 _ ?_
        show own_S p e below T128 m 41 #[rv a1, iv p2, iv (3 : Int32)] [] _
        refine XS.aloadN X128.here hx rfl (hb hby d10_41) rfl rfl ?_
        refine XS.dup X128.here hx rfl (hb hby d10_42) rfl rfl ?_
        refine st130 _ ?_
        show own_S p e below T130 m 46 #[rv a1, iv p2, iv (3 : Int32)] [(.int (4 : Int32)), (.ref a1)] _
        refine XS.iconst X130.here hx rfl (hb hby d10_46) ?_
        refine XS.isub X130.here hx rfl (hb hby d10_47) rfl ?_
        refine st132 _ ?_
        show own_S p e below T132 m 51 #[rv a1, iv p2, iv (3 : Int32)] [] _
        refine XS.aloadN X132.here hx rfl (hb hby d10_51) rfl rfl ?_
        exact k)
      obtain ⟨fs, hr, hrun, hended, hW, hsame⟩ := X132.leave (v := some (.ref a1)) (fun h => by rw [Bd.returns] at h; cases h)
      refine ⟨_, _, pre133 _ ?_, hrun, hended, _, _, rfl, ?_, ⟨_, rfl⟩, hW, hsame.mono (by decide) (by decide)⟩
      · show own_S p e below T132 m 52 #[rv a1, iv p2, iv (3 : Int32)] [(.ref a1)] _
        exact retOut X132 hx (t := (.object "com/example/bitstrata/bitstrata/Container")) Bd.returns rfl (Or.inr (Or.inr (Or.inr (Or.inr ⟨rfl, rfl, rfl⟩)))) (hb hby d10_52) hr
      · show QRem Z a1 p2 t k [x0, x1, x2, x3] h0 n0 _ T132.heap _
        rw [e132]
        have En_134 := (En_131.wr W132)
        have Fn_135 := ((F_v.keep K128 (ninS (Ne.symm hne) nin0)).other W132 (Or.inr (slot_ne (Or.inl (hw _ (List.mem_of_getElem? (i := 11) rfl))) (Or.inl (hw _ (List.mem_of_getElem? (i := 13) rfl))) (by decide) (t := (.array .char)) (t' := .int) (by decide) (by decide))))
        have Vn_136 := (V128.other W132 hne)
        refine ⟨[x0, x1, x2], [(.int x0), (.int x1), (.int x2), (.int x3)], rfl, N132, (((Keep.refl h0 [a1, t]).trans K128 (allS (Or.inl (List.mem_of_getElem? (i := 1) rfl)) all0)).wr W132 (Or.inl (List.mem_of_getElem? (i := 0) rfl))), En_134, Fn_135, Fw132, Vn_136, ?_, ?_, ?_, ?_, ?_⟩
        · exact Nat.le_of_ble_eq_true rfl
        · intro i hi
          match i, hi with
          | 0, _ => rfl
          | 1, _ => rfl
          | 2, _ => rfl
        · exact ⟨(by first | assumption | exact own_tr (by assumption) (by assumption)), (by first | assumption | exact own_tr (by assumption) (by assumption)), trivial⟩
        · intro x hx; exact hch x (by simp only [List.mem_cons, List.not_mem_nil, or_false] at hx ⊢; rcases hx with hx | hx | hx <;> simp [*])
        · intro x; simp only [List.mem_cons, List.not_mem_nil, or_false]
          constructor
          · intro h; rcases h with rfl | rfl | rfl <;> simp [*]
          · intro h; obtain ⟨h, g⟩ := h; rcases h with rfl | rfl | rfl | rfl
            · simp
            · simp
            · simp
            · exact absurd q0 g
    ·  -- case
      exfalso
      simp only [List.mem_cons, List.not_mem_nil, or_false] at hmem
      rcases hmem with q | q | q | q
      · exact own_irr _ (q ▸ q0)
      · exact own_irr _ (q ▸ (own_tr q0 s01))
      · exact own_irr _ (q ▸ (own_tr (own_tr q0 s01) s12))
      · exact own_irr _ (q ▸ (own_tr (own_tr (own_tr q0 s01) s12) s23))
    ·  -- case
      exfalso
      simp only [List.mem_cons, List.not_mem_nil, or_false] at hmem
      rcases hmem with q | q | q | q
      · exact own_irr _ (q ▸ q0)
      · exact own_irr _ (q ▸ q1)
      · exact own_irr _ (q ▸ (own_tr q1 s12))
      · exact own_irr _ (q ▸ (own_tr (own_tr q1 s12) s23))
    ·  -- case
      exfalso
      simp only [List.mem_cons, List.not_mem_nil, or_false] at hmem
      rcases hmem with q | q | q | q
      · exact own_irr _ (q ▸ (own_tr s01 q0))
      · exact own_irr _ (q ▸ q0)
      · exact own_irr _ (q ▸ q1)
      · exact own_irr _ (q ▸ (own_tr q1 s23))
    ·  -- case
      exfalso
      simp only [List.mem_cons, List.not_mem_nil, or_false] at hmem
      rcases hmem with q | q | q | q
      · exact own_irr _ (q ▸ (own_tr s01 (own_tr s12 q0)))
      · exact own_irr _ (q ▸ (own_tr s12 q0))
      · exact own_irr _ (q ▸ q0)
      · exact own_irr _ (q ▸ q1)
    ·  -- case
      exfalso
      simp only [List.mem_cons, List.not_mem_nil, or_false] at hmem
      rcases hmem with q | q | q | q
      · exact own_irr _ (q ▸ (own_tr s01 (own_tr s12 (own_tr s23 q0))))
      · exact own_irr _ (q ▸ (own_tr s12 (own_tr s23 q0)))
      · exact own_irr _ (q ▸ (own_tr s23 q0))
      · exact own_irr _ (q ▸ q0)
def own_runs : List Int32 → Int32
  | [] => 0
  | [_] => 1
  | x :: y :: r => own_runs (y :: r) + (if y = x + 1 then 0 else 1)
theorem own_len0 {xs : List Int32} (h : xs.length = 0) : xs = [] := List.eq_nil_of_length_eq_zero h
theorem ef_Run (m : MethodId) (a1 : Addr) : entryFrame m #[(.ref a1)] 3 = mkF m 0 #[rv a1, .unset, .unset] [] := by first | (simp [entryFrame, mkF, argsToLocals, Value.category]; done) | rfl
def QRun (Z : State) (a1 : Addr) (t : Addr) (k : ClassId) (xs : List Int32) (vs : List Value) (h0 : Heap) (n0 : Nat) (v : Option Value) (h : Heap) (L : List Loc) : Prop := v = some (.int (own_runs xs)) ∧ Fr n0 L ∧ h = h0
theorem d5_0 : decode prog_1_method_8_code 0 = .ok (.aload_n 0, 1) := by decide +kernel
theorem d5_1 : decode prog_1_method_8_code 1 = .ok (.getfield 13, 3) := by decide +kernel
theorem d5_4 : decode prog_1_method_8_code 4 = .ok (.ifCond .ne 7, 3) := by decide +kernel
theorem d5_7 : decode prog_1_method_8_code 7 = .ok (.iconst 0, 1) := by decide +kernel
theorem d5_8 : decode prog_1_method_8_code 8 = .ok (.goto 4, 3) := by decide +kernel
theorem d5_12 : decode prog_1_method_8_code 12 = .ok (.istore_n 1, 1) := by decide +kernel
theorem d5_13 : decode prog_1_method_8_code 13 = .ok (.iconst 1, 1) := by decide +kernel
theorem d5_14 : decode prog_1_method_8_code 14 = .ok (.istore_n 2, 1) := by decide +kernel
theorem d5_15 : decode prog_1_method_8_code 15 = .ok (.iload_n 2, 1) := by decide +kernel
theorem d5_16 : decode prog_1_method_8_code 16 = .ok (.aload_n 0, 1) := by decide +kernel
theorem d5_17 : decode prog_1_method_8_code 17 = .ok (.getfield 13, 3) := by decide +kernel
theorem d5_20 : decode prog_1_method_8_code 20 = .ok (.if_icmp .ge 31, 3) := by decide +kernel
theorem d5_51 : decode prog_1_method_8_code 51 = .ok (.iload_n 1, 1) := by decide +kernel
theorem d5_52 : decode prog_1_method_8_code 52 = .ok (.ireturn, 1) := by decide +kernel
theorem d5_11 : decode prog_1_method_8_code 11 = .ok (.iconst 1, 1) := by decide +kernel
theorem d5_23 : decode prog_1_method_8_code 23 = .ok (.aload_n 0, 1) := by decide +kernel
theorem d5_24 : decode prog_1_method_8_code 24 = .ok (.getfield 9, 3) := by decide +kernel
theorem d5_27 : decode prog_1_method_8_code 27 = .ok (.iload_n 2, 1) := by decide +kernel
theorem d5_28 : decode prog_1_method_8_code 28 = .ok (.caload, 1) := by decide +kernel
theorem d5_29 : decode prog_1_method_8_code 29 = .ok (.aload_n 0, 1) := by decide +kernel
theorem d5_30 : decode prog_1_method_8_code 30 = .ok (.getfield 9, 3) := by decide +kernel
theorem d5_33 : decode prog_1_method_8_code 33 = .ok (.iload_n 2, 1) := by decide +kernel
theorem d5_34 : decode prog_1_method_8_code 34 = .ok (.iconst 1, 1) := by decide +kernel
theorem d5_35 : decode prog_1_method_8_code 35 = .ok (.isub, 1) := by decide +kernel
theorem d5_36 : decode prog_1_method_8_code 36 = .ok (.caload, 1) := by decide +kernel
theorem d5_37 : decode prog_1_method_8_code 37 = .ok (.iconst 1, 1) := by decide +kernel
theorem d5_38 : decode prog_1_method_8_code 38 = .ok (.iadd, 1) := by decide +kernel
theorem d5_39 : decode prog_1_method_8_code 39 = .ok (.if_icmp .eq 6, 3) := by decide +kernel
theorem d5_45 : decode prog_1_method_8_code 45 = .ok (.iinc 2 1, 3) := by decide +kernel
theorem d5_48 : decode prog_1_method_8_code 48 = .ok (.goto (-33), 3) := by decide +kernel
theorem d5_42 : decode prog_1_method_8_code 42 = .ok (.iinc 1 1, 3) := by decide +kernel
set_option maxRecDepth 65536 in
set_option maxHeartbeats 40000000 in
theorem rmRun (l : Launch) (Z : State) (a0 : Array Value) (hw : ∀ d ∈ tables_1, d.before a0 Z = true) (ws : List Jvm.Cond) (a1 : Addr) (t : Addr) (k : ClassId) (xs : List Int32) (vs : List Value) (h0 : Heap) (n0 : Nat) (Z0 : n0 ≤ h0.size) (F_v : Fld Z h0 a1 "com/example/bitstrata/bitstrata/ArrayContainer" "values" "[C" (.ref t)) (F_c : Fld Z h0 a1 "com/example/bitstrata/bitstrata/ArrayContainer" "cardinality" "I" (.int (Int32.ofNat xs.length))) (V_t : Arv Z h0 t k .char (4 : Int32) vs (.int 0)) (hl2 : xs.length ≤ 4) (hpre : own_pre xs vs) :
    MetFree l (⟨"com/example/bitstrata/bitstrata/ArrayContainer", "runCount", "()I"⟩ : MethodName) (head1 (Jvm.Cond.code (⟨"com/example/bitstrata/bitstrata/ArrayContainer", "runCount", "()I"⟩ : MethodName) prog_1_method_8_code 3 (some .int) :: ws) ({ frames := 0, cells := 0, slots := 0, locals := 0 } : Room)) (fun a U => a = #[(.ref a1)] ∧ Z.Warmed39 U.vm ∧ U.heap = h0) (fun _ _ _ _ _ => True) (fun _ U o U' => ∃ v L, o = .returned v ∧ QRun Z a1 t k xs vs h0 n0 v U'.heap L ∧ FrameEnd U o U' L ({ frames := 0, cells := 0, slots := 0, locals := 0 } : Room).cells ({ frames := 0, cells := 0, slots := 0, locals := 0 } : Room).slots) := by
  refine MetFree.of_bodySF (plainFor_of_name pn_0) hisR ?_
  intro p e s m args below meth c s₁ Bd hml0 hP hK
  obtain ⟨rfl, hZ, hh⟩ := hP
  have hx := Bd.exec
  have hby := Bd.bytes
  have hml : c.maxLocals = 3 := hml0
  have hown : s.vm.findClass "com/example/bitstrata/bitstrata/ArrayContainer" = some m.cls := findClass_of_methodNamed Bd.named
  have hnm := (name_of_methodNamed Bd.named Bd.method).1
  have X0 : Stand p l e ({ frames := 0, cells := 0, slots := 0, locals := 0 } : Room) s m #[(.ref a1)] below meth c s₁ [] 0 0 := Stand.of_body Bd
  have e0 : s₁.heap = h0 := by rw [← hh, Bd.state]; rfl
  have N0 := Fr.nil n0
  have pre0 : ∀ tg, Steps p.tables e below (s₁.setTop (mkF m 0 #[rv a1, .unset, .unset] [])) tg → Steps p.tables e below (s₁.setTop (entryFrame m #[(.ref a1)] 3)) tg := fun tg k => castTop (ef_Run m a1) k
  have hlen : xs.length = 0 ∨ xs.length = 1 ∨ xs.length = 2 ∨ xs.length = 3 ∨ xs.length = 4 := by omega
  rcases hlen with hl | hl | hl | hl | hl
  ·  -- case
    obtain rfl := own_len0 hl
    have F_c' : Fld Z h0 a1 "com/example/bitstrata/bitstrata/ArrayContainer" "cardinality" "I" (.int (0 : Int32)) := F_c
    obtain ⟨T1, X1, e1, st1⟩ := getF X0 hx hZ hown (host := "") (Or.inl (hw _ (List.mem_of_getElem? (i := 12) rfl))) Via.refl e0 F_c' (g := (mkF m 1 #[rv a1, .unset, .unset] [(.ref a1)])) rfl rfl (hb hby d5_1)
    obtain ⟨T2, X2, e2, st2⟩ := getF X1 hx hZ hown (host := "") (Or.inl (hw _ (List.mem_of_getElem? (i := 12) rfl))) Via.refl e1 F_c' (g := (mkF m 17 #[rv a1, iv (0 : Int32), iv (1 : Int32)] [(.ref a1), (.int (1 : Int32))])) rfl rfl (hb hby d5_17)
    have pre3 : ∀ tg, own_S p e below T2 m 52 #[rv a1, iv (0 : Int32), iv (1 : Int32)] [(.int (0 : Int32))] tg → Steps p.tables e below (s₁.setTop (entryFrame m #[(.ref a1)] 3)) tg := fun tg k => pre0 tg (by
      show own_S p e below s₁ m 0 #[rv a1, .unset, .unset] [] _
      refine XS.aloadN X0.here hx rfl (hb hby d5_0) rfl rfl ?_
      refine st1 _ ?_
      refine XS.ifNo X1.here hx rfl (hb hby d5_4) rfl ((if0 _ _).trans (teq (by decide : (0 : Int32) = (0 : Int32))).2) ?_
      show own_S p e below T1 m 7 #[rv a1, .unset, .unset] [] _
      refine XS.iconst X1.here hx rfl (hb hby d5_7) ?_
      refine XS.goto X1.here hx rfl (pc0 := 8) (pc' := 12) rfl (hb hby d5_8) (by decide) (by decide) ?_
      refine XS.istoreN X1.here hx rfl (hb hby d5_12) rfl (l' := #[rv a1, iv (0 : Int32), .unset]) rfl ?_
      show own_S p e below T1 m 13 #[rv a1, iv (0 : Int32), .unset] [] _
      refine XS.iconst X1.here hx rfl (hb hby d5_13) ?_
      refine XS.istoreN X1.here hx rfl (hb hby d5_14) rfl (l' := #[rv a1, iv (0 : Int32), iv (1 : Int32)]) rfl ?_
      refine XS.iloadN X1.here hx rfl (hb hby d5_15) rfl ?_
      show own_S p e below T1 m 16 #[rv a1, iv (0 : Int32), iv (1 : Int32)] [(.int (1 : Int32))] _
      refine XS.aloadN X1.here hx rfl (hb hby d5_16) rfl rfl ?_
      refine st2 _ ?_
      refine XS.icmpYes X2.here hx rfl (pc0 := 20) (pc' := 51) rfl (hb hby d5_20) rfl (flt (by decide : ¬ ((1 : Int32) < (0 : Int32)))).2.1 (by decide) (by decide) ?_
      show own_S p e below T2 m 51 #[rv a1, iv (0 : Int32), iv (1 : Int32)] [] _
      refine XS.iloadN X2.here hx rfl (hb hby d5_51) rfl ?_
      exact k)
    obtain ⟨fs, hr, hrun, hended, hW, hsame⟩ := X2.leave (v := some (.int (0 : Int32))) (fun h => by rw [Bd.returns] at h; cases h)
    refine ⟨_, _, pre3 _ ?_, hrun, hended, _, _, rfl, ?_, ⟨_, rfl⟩, hW, hsame.mono (by decide) (by decide)⟩
    · show own_S p e below T2 m 52 #[rv a1, iv (0 : Int32), iv (1 : Int32)] [(.int (0 : Int32))] _
      exact retI X2 hx Bd.returns (hb hby d5_52) hr
    · show QRun Z a1 t k [] vs h0 n0 _ T2.heap _
      rw [e2]
      refine ⟨?_, N0, rfl⟩
      simp only [own_runs]
      try rfl
  ·  -- case
    obtain ⟨x0, rfl⟩ := own_len1 hl
    have F_c' : Fld Z h0 a1 "com/example/bitstrata/bitstrata/ArrayContainer" "cardinality" "I" (.int (1 : Int32)) := F_c
    have hv0 : vs.getD 0 (.int (0 : Int32)) = .int x0 := hpre 0 (Nat.le_of_ble_eq_true rfl)
    obtain ⟨T4, X4, e4, st4⟩ := getF X0 hx hZ hown (host := "") (Or.inl (hw _ (List.mem_of_getElem? (i := 12) rfl))) Via.refl e0 F_c' (g := (mkF m 1 #[rv a1, .unset, .unset] [(.ref a1)])) rfl rfl (hb hby d5_1)
    obtain ⟨T5, X5, e5, st5⟩ := getF X4 hx hZ hown (host := "") (Or.inl (hw _ (List.mem_of_getElem? (i := 12) rfl))) Via.refl e4 F_c' (g := (mkF m 17 #[rv a1, iv (1 : Int32), iv (1 : Int32)] [(.ref a1), (.int (1 : Int32))])) rfl rfl (hb hby d5_17)
    have pre6 : ∀ tg, own_S p e below T5 m 52 #[rv a1, iv (1 : Int32), iv (1 : Int32)] [(.int (1 : Int32))] tg → Steps p.tables e below (s₁.setTop (entryFrame m #[(.ref a1)] 3)) tg := fun tg k => pre0 tg (by
      show own_S p e below s₁ m 0 #[rv a1, .unset, .unset] [] _
      refine XS.aloadN X0.here hx rfl (hb hby d5_0) rfl rfl ?_
      refine st4 _ ?_
      refine XS.ifYes X4.here hx rfl (pc0 := 4) (pc' := 11) rfl (hb hby d5_4) rfl ((if0 _ _).trans (feq (by decide : ¬ ((1 : Int32) = (0 : Int32)))).2) (by decide) (by decide) ?_
      show own_S p e below T4 m 11 #[rv a1, .unset, .unset] [] _
      refine XS.iconst X4.here hx rfl (hb hby d5_11) ?_
      refine XS.istoreN X4.here hx rfl (hb hby d5_12) rfl (l' := #[rv a1, iv (1 : Int32), .unset]) rfl ?_
      refine XS.iconst X4.here hx rfl (hb hby d5_13) ?_
      show own_S p e below T4 m 14 #[rv a1, iv (1 : Int32), .unset] [(.int (1 : Int32))] _
      refine XS.istoreN X4.here hx rfl (hb hby d5_14) rfl (l' := #[rv a1, iv (1 : Int32), iv (1 : Int32)]) rfl ?_
      refine XS.iloadN X4.here hx rfl (hb hby d5_15) rfl ?_
      refine XS.aloadN X4.here hx rfl (hb hby d5_16) rfl rfl ?_
      show own_S p e below T4 m 17 #[rv a1, iv (1 : Int32), iv (1 : Int32)] [(.ref a1), (.int (1 : Int32))] _
      refine st5 _ ?_
      refine XS.icmpYes X5.here hx rfl (pc0 := 20) (pc' := 51) rfl (hb hby d5_20) rfl (flt (by decide : ¬ ((1 : Int32) < (1 : Int32)))).2.1 (by decide) (by decide) ?_
      refine XS.iloadN X5.here hx rfl (hb hby d5_51) rfl ?_
      exact k)
    obtain ⟨fs, hr, hrun, hended, hW, hsame⟩ := X5.leave (v := some (.int (1 : Int32))) (fun h => by rw [Bd.returns] at h; cases h)
    refine ⟨_, _, pre6 _ ?_, hrun, hended, _, _, rfl, ?_, ⟨_, rfl⟩, hW, hsame.mono (by decide) (by decide)⟩
    · show own_S p e below T5 m 52 #[rv a1, iv (1 : Int32), iv (1 : Int32)] [(.int (1 : Int32))] _
      exact retI X5 hx Bd.returns (hb hby d5_52) hr
    · show QRun Z a1 t k [x0] vs h0 n0 _ T5.heap _
      rw [e5]
      refine ⟨?_, N0, rfl⟩
      simp only [own_runs]
      try rfl
  ·  -- case
    obtain ⟨x0, x1, rfl⟩ := own_len2 hl
    have F_c' : Fld Z h0 a1 "com/example/bitstrata/bitstrata/ArrayContainer" "cardinality" "I" (.int (2 : Int32)) := F_c
    have hv0 : vs.getD 0 (.int (0 : Int32)) = .int x0 := hpre 0 (Nat.le_of_ble_eq_true rfl)
    have hv1 : vs.getD 1 (.int (0 : Int32)) = .int x1 := hpre 1 (Nat.le_of_ble_eq_true rfl)
    obtain ⟨T7, X7, e7, st7⟩ := getF X0 hx hZ hown (host := "") (Or.inl (hw _ (List.mem_of_getElem? (i := 12) rfl))) Via.refl e0 F_c' (g := (mkF m 1 #[rv a1, .unset, .unset] [(.ref a1)])) rfl rfl (hb hby d5_1)
    obtain ⟨T8, X8, e8, st8⟩ := getF X7 hx hZ hown (host := "") (Or.inl (hw _ (List.mem_of_getElem? (i := 12) rfl))) Via.refl e7 F_c' (g := (mkF m 17 #[rv a1, iv (1 : Int32), iv (1 : Int32)] [(.ref a1), (.int (1 : Int32))])) rfl rfl (hb hby d5_17)
    obtain ⟨T9, X9, e9, st9⟩ := getF X8 hx hZ hown (host := "") (Or.inl (hw _ (List.mem_of_getElem? (i := 10) rfl))) Via.refl e8 F_v (g := (mkF m 24 #[rv a1, iv (1 : Int32), iv (1 : Int32)] [(.ref a1)])) rfl rfl (hb hby d5_24)
    obtain ⟨cl10, Ar10, q10, S10, M10, H10, G10⟩ := id V_t
    have hin10 : ¬ ((1 : Int32) < 0 ∨ cl10.slots.size ≤ ((1 : Int32)).toNatClampNeg) := inb_of S10 ⟨by decide, by decide⟩
    have hat10 : cl10.slots[((1 : Int32)).toNatClampNeg]? = some (.int x1) := H10.at hin10 hv1
    obtain ⟨T11, X11, e11, st11⟩ := getF X9 hx hZ hown (host := "") (Or.inl (hw _ (List.mem_of_getElem? (i := 10) rfl))) Via.refl e9 F_v (g := (mkF m 30 #[rv a1, iv (1 : Int32), iv (1 : Int32)] [(.ref a1), (.int x1)])) rfl rfl (hb hby d5_30)
    obtain ⟨cl12, Ar12, q12, S12, M12, H12, G12⟩ := id V_t
    have hin12 : ¬ ((0 : Int32) < 0 ∨ cl12.slots.size ≤ ((0 : Int32)).toNatClampNeg) := inb_of S12 ⟨by decide, by decide⟩
    have hat12 : cl12.slots[((0 : Int32)).toNatClampNeg]? = some (.int x0) := H12.at hin12 hv0
    have pre14 : ∀ tg, own_S p e below T11 m 39 #[rv a1, iv (1 : Int32), iv (1 : Int32)] [(.int (x0 + (1 : Int32))), (.int x1)] tg → Steps p.tables e below (s₁.setTop (entryFrame m #[(.ref a1)] 3)) tg := fun tg k => pre0 tg (by
      show own_S p e below s₁ m 0 #[rv a1, .unset, .unset] [] _
      refine XS.aloadN X0.here hx rfl (hb hby d5_0) rfl rfl ?_
      refine st7 _ ?_
      refine XS.ifYes X7.here hx rfl (pc0 := 4) (pc' := 11) rfl (hb hby d5_4) rfl ((if0 _ _).trans (feq (by decide : ¬ ((2 : Int32) = (0 : Int32)))).2) (by decide) (by decide) ?_
      show own_S p e below T7 m 11 #[rv a1, .unset, .unset] [] _
      refine XS.iconst X7.here hx rfl (hb hby d5_11) ?_
      refine XS.istoreN X7.here hx rfl (hb hby d5_12) rfl (l' := #[rv a1, iv (1 : Int32), .unset]) rfl ?_
      refine XS.iconst X7.here hx rfl (hb hby d5_13) ?_
      show own_S p e below T7 m 14 #[rv a1, iv (1 : Int32), .unset] [(.int (1 : Int32))] _
      refine XS.istoreN X7.here hx rfl (hb hby d5_14) rfl (l' := #[rv a1, iv (1 : Int32), iv (1 : Int32)]) rfl ?_
      refine XS.iloadN X7.here hx rfl (hb hby d5_15) rfl ?_
      refine XS.aloadN X7.here hx rfl (hb hby d5_16) rfl rfl ?_
      show own_S p e below T7 m 17 #[rv a1, iv (1 : Int32), iv (1 : Int32)] [(.ref a1), (.int (1 : Int32))] _
      refine st8 _ ?_
      refine XS.icmpNo X8.here hx rfl (hb hby d5_20) rfl (tlt (by decide : (1 : Int32) < (2 : Int32))).2.1 ?_
      refine XS.aloadN X8.here hx rfl (hb hby d5_23) rfl rfl ?_
      show own_S p e below T8 m 24 #[rv a1, iv (1 : Int32), iv (1 : Int32)] [(.ref a1)] _
      refine st9 _ ?_
      refine XS.iloadN X9.here hx rfl (hb hby d5_27) rfl ?_
      refine X9.caload hx (j := (1 : Int32)) (v := (.int x1)) (by rw [e9]; exact Ar10.1) (State.isArrayOf_alike hZ.alike Ar10.2.1) Ar10.2.2 hin10 hat10 (g := (mkF m 28 #[rv a1, iv (1 : Int32), iv (1 : Int32)] [(.int (1 : Int32)), (.ref t)])) rfl rfl (hb hby d5_28) _ ?_
      show own_S p e below T9 m 29 #[rv a1, iv (1 : Int32), iv (1 : Int32)] [(.int x1)] _
      refine XS.aloadN X9.here hx rfl (hb hby d5_29) rfl rfl ?_
      refine st11 _ ?_
      refine XS.iloadN X11.here hx rfl (hb hby d5_33) rfl ?_
      show own_S p e below T11 m 34 #[rv a1, iv (1 : Int32), iv (1 : Int32)] [(.int (1 : Int32)), (.ref t), (.int x1)] _
      refine XS.iconst X11.here hx rfl (hb hby d5_34) ?_
      refine XS.isub X11.here hx rfl (hb hby d5_35) rfl ?_
      refine X11.caload hx (j := (0 : Int32)) (v := (.int x0)) (by rw [e11]; exact Ar12.1) (State.isArrayOf_alike hZ.alike Ar12.2.1) Ar12.2.2 hin12 hat12 (g := (mkF m 36 #[rv a1, iv (1 : Int32), iv (1 : Int32)] [(.int (0 : Int32)), (.ref t), (.int x1)])) rfl rfl (hb hby d5_36) _ ?_
      show own_S p e below T11 m 37 #[rv a1, iv (1 : Int32), iv (1 : Int32)] [(.int x0), (.int x1)] _
      refine XS.iconst X11.here hx rfl (hb hby d5_37) ?_
      refine XS.iadd X11.here hx rfl (hb hby d5_38) rfl ?_
      exact k)
    by_cases hc39_13 : x1 = (x0 + (1 : Int32))
    ·  -- pc 39 yes
      obtain ⟨T15, X15, e15, st15⟩ := getF X11 hx hZ hown (host := "") (Or.inl (hw _ (List.mem_of_getElem? (i := 12) rfl))) Via.refl e11 F_c' (g := (mkF m 17 #[rv a1, iv (1 : Int32), iv (2 : Int32)] [(.ref a1), (.int (2 : Int32))])) rfl rfl (hb hby d5_17)
      have pre16 : ∀ tg, own_S p e below T15 m 52 #[rv a1, iv (1 : Int32), iv (2 : Int32)] [(.int (1 : Int32))] tg → Steps p.tables e below (s₁.setTop (entryFrame m #[(.ref a1)] 3)) tg := fun tg k => pre14 tg (by
        show own_S p e below T11 m 39 #[rv a1, iv (1 : Int32), iv (1 : Int32)] [(.int (x0 + (1 : Int32))), (.int x1)] _
        refine XS.icmpYes X11.here hx rfl (pc0 := 39) (pc' := 45) rfl (hb hby d5_39) rfl (teq hc39_13).1 (by decide) (by decide) ?_
        refine XS.iinc X11.here hx rfl (hb hby d5_45) rfl (l' := #[rv a1, iv (1 : Int32), iv (2 : Int32)]) rfl ?_
        refine XS.goto X11.here hx rfl (pc0 := 48) (pc' := 15) rfl (hb hby d5_48) (by decide) (by decide) ?_
        show own_S p e below T11 m 15 #[rv a1, iv (1 : Int32), iv (2 : Int32)] [] _
        refine XS.iloadN X11.here hx rfl (hb hby d5_15) rfl ?_
        refine XS.aloadN X11.here hx rfl (hb hby d5_16) rfl rfl ?_
        refine st15 _ ?_
        show own_S p e below T15 m 20 #[rv a1, iv (1 : Int32), iv (2 : Int32)] [(.int (2 : Int32)), (.int (2 : Int32))] _
        refine XS.icmpYes X15.here hx rfl (pc0 := 20) (pc' := 51) rfl (hb hby d5_20) rfl (flt (by decide : ¬ ((2 : Int32) < (2 : Int32)))).2.1 (by decide) (by decide) ?_
        refine XS.iloadN X15.here hx rfl (hb hby d5_51) rfl ?_
        exact k)
      obtain ⟨fs, hr, hrun, hended, hW, hsame⟩ := X15.leave (v := some (.int (1 : Int32))) (fun h => by rw [Bd.returns] at h; cases h)
      refine ⟨_, _, pre16 _ ?_, hrun, hended, _, _, rfl, ?_, ⟨_, rfl⟩, hW, hsame.mono (by decide) (by decide)⟩
      · show own_S p e below T15 m 52 #[rv a1, iv (1 : Int32), iv (2 : Int32)] [(.int (1 : Int32))] _
        exact retI X15 hx Bd.returns (hb hby d5_52) hr
      · show QRun Z a1 t k [x0, x1] vs h0 n0 _ T15.heap _
        rw [e15]
        refine ⟨?_, N0, rfl⟩
        simp only [own_runs]
        rw [if_pos hc39_13]
        try rfl
    ·  -- pc 39 no
      obtain ⟨T17, X17, e17, st17⟩ := getF X11 hx hZ hown (host := "") (Or.inl (hw _ (List.mem_of_getElem? (i := 12) rfl))) Via.refl e11 F_c' (g := (mkF m 17 #[rv a1, iv (2 : Int32), iv (2 : Int32)] [(.ref a1), (.int (2 : Int32))])) rfl rfl (hb hby d5_17)
      have pre18 : ∀ tg, own_S p e below T17 m 52 #[rv a1, iv (2 : Int32), iv (2 : Int32)] [(.int (2 : Int32))] tg → Steps p.tables e below (s₁.setTop (entryFrame m #[(.ref a1)] 3)) tg := fun tg k => pre14 tg (by
        show own_S p e below T11 m 39 #[rv a1, iv (1 : Int32), iv (1 : Int32)] [(.int (x0 + (1 : Int32))), (.int x1)] _
        refine XS.icmpNo X11.here hx rfl (hb hby d5_39) rfl (feq hc39_13).1 ?_
        refine XS.iinc X11.here hx rfl (hb hby d5_42) rfl (l' := #[rv a1, iv (2 : Int32), iv (1 : Int32)]) rfl ?_
        refine XS.iinc X11.here hx rfl (hb hby d5_45) rfl (l' := #[rv a1, iv (2 : Int32), iv (2 : Int32)]) rfl ?_
        show own_S p e below T11 m 48 #[rv a1, iv (2 : Int32), iv (2 : Int32)] [] _
        refine XS.goto X11.here hx rfl (pc0 := 48) (pc' := 15) rfl (hb hby d5_48) (by decide) (by decide) ?_
        refine XS.iloadN X11.here hx rfl (hb hby d5_15) rfl ?_
        refine XS.aloadN X11.here hx rfl (hb hby d5_16) rfl rfl ?_
        show own_S p e below T11 m 17 #[rv a1, iv (2 : Int32), iv (2 : Int32)] [(.ref a1), (.int (2 : Int32))] _
        refine st17 _ ?_
        refine XS.icmpYes X17.here hx rfl (pc0 := 20) (pc' := 51) rfl (hb hby d5_20) rfl (flt (by decide : ¬ ((2 : Int32) < (2 : Int32)))).2.1 (by decide) (by decide) ?_
        refine XS.iloadN X17.here hx rfl (hb hby d5_51) rfl ?_
        exact k)
      obtain ⟨fs, hr, hrun, hended, hW, hsame⟩ := X17.leave (v := some (.int (2 : Int32))) (fun h => by rw [Bd.returns] at h; cases h)
      refine ⟨_, _, pre18 _ ?_, hrun, hended, _, _, rfl, ?_, ⟨_, rfl⟩, hW, hsame.mono (by decide) (by decide)⟩
      · show own_S p e below T17 m 52 #[rv a1, iv (2 : Int32), iv (2 : Int32)] [(.int (2 : Int32))] _
        exact retI X17 hx Bd.returns (hb hby d5_52) hr
      · show QRun Z a1 t k [x0, x1] vs h0 n0 _ T17.heap _
        rw [e17]
        refine ⟨?_, N0, rfl⟩
        simp only [own_runs]
        rw [if_neg hc39_13]
        try rfl
  ·  -- case
    obtain ⟨x0, x1, x2, rfl⟩ := own_len3 hl
    have F_c' : Fld Z h0 a1 "com/example/bitstrata/bitstrata/ArrayContainer" "cardinality" "I" (.int (3 : Int32)) := F_c
    have hv0 : vs.getD 0 (.int (0 : Int32)) = .int x0 := hpre 0 (Nat.le_of_ble_eq_true rfl)
    have hv1 : vs.getD 1 (.int (0 : Int32)) = .int x1 := hpre 1 (Nat.le_of_ble_eq_true rfl)
    have hv2 : vs.getD 2 (.int (0 : Int32)) = .int x2 := hpre 2 (Nat.le_of_ble_eq_true rfl)
    obtain ⟨T19, X19, e19, st19⟩ := getF X0 hx hZ hown (host := "") (Or.inl (hw _ (List.mem_of_getElem? (i := 12) rfl))) Via.refl e0 F_c' (g := (mkF m 1 #[rv a1, .unset, .unset] [(.ref a1)])) rfl rfl (hb hby d5_1)
    obtain ⟨T20, X20, e20, st20⟩ := getF X19 hx hZ hown (host := "") (Or.inl (hw _ (List.mem_of_getElem? (i := 12) rfl))) Via.refl e19 F_c' (g := (mkF m 17 #[rv a1, iv (1 : Int32), iv (1 : Int32)] [(.ref a1), (.int (1 : Int32))])) rfl rfl (hb hby d5_17)
    obtain ⟨T21, X21, e21, st21⟩ := getF X20 hx hZ hown (host := "") (Or.inl (hw _ (List.mem_of_getElem? (i := 10) rfl))) Via.refl e20 F_v (g := (mkF m 24 #[rv a1, iv (1 : Int32), iv (1 : Int32)] [(.ref a1)])) rfl rfl (hb hby d5_24)
    obtain ⟨cl22, Ar22, q22, S22, M22, H22, G22⟩ := id V_t
    have hin22 : ¬ ((1 : Int32) < 0 ∨ cl22.slots.size ≤ ((1 : Int32)).toNatClampNeg) := inb_of S22 ⟨by decide, by decide⟩
    have hat22 : cl22.slots[((1 : Int32)).toNatClampNeg]? = some (.int x1) := H22.at hin22 hv1
    obtain ⟨T23, X23, e23, st23⟩ := getF X21 hx hZ hown (host := "") (Or.inl (hw _ (List.mem_of_getElem? (i := 10) rfl))) Via.refl e21 F_v (g := (mkF m 30 #[rv a1, iv (1 : Int32), iv (1 : Int32)] [(.ref a1), (.int x1)])) rfl rfl (hb hby d5_30)
    obtain ⟨cl24, Ar24, q24, S24, M24, H24, G24⟩ := id V_t
    have hin24 : ¬ ((0 : Int32) < 0 ∨ cl24.slots.size ≤ ((0 : Int32)).toNatClampNeg) := inb_of S24 ⟨by decide, by decide⟩
    have hat24 : cl24.slots[((0 : Int32)).toNatClampNeg]? = some (.int x0) := H24.at hin24 hv0
    have pre26 : ∀ tg, own_S p e below T23 m 39 #[rv a1, iv (1 : Int32), iv (1 : Int32)] [(.int (x0 + (1 : Int32))), (.int x1)] tg → Steps p.tables e below (s₁.setTop (entryFrame m #[(.ref a1)] 3)) tg := fun tg k => pre0 tg (by
      show own_S p e below s₁ m 0 #[rv a1, .unset, .unset] [] _
      refine XS.aloadN X0.here hx rfl (hb hby d5_0) rfl rfl ?_
      refine st19 _ ?_
      refine XS.ifYes X19.here hx rfl (pc0 := 4) (pc' := 11) rfl (hb hby d5_4) rfl ((if0 _ _).trans (feq (by decide : ¬ ((3 : Int32) = (0 : Int32)))).2) (by decide) (by decide) ?_
      show own_S p e below T19 m 11 #[rv a1, .unset, .unset] [] _
      refine XS.iconst X19.here hx rfl (hb hby d5_11) ?_
      refine XS.istoreN X19.here hx rfl (hb hby d5_12) rfl (l' := #[rv a1, iv (1 : Int32), .unset]) rfl ?_
      refine XS.iconst X19.here hx rfl (hb hby d5_13) ?_
      show own_S p e below T19 m 14 #[rv a1, iv (1 : Int32), .unset] [(.int (1 : Int32))] _
      refine XS.istoreN X19.here hx rfl (hb hby d5_14) rfl (l' := #[rv a1, iv (1 : Int32), iv (1 : Int32)]) rfl ?_
      refine XS.iloadN X19.here hx rfl (hb hby d5_15) rfl ?_
      refine XS.aloadN X19.here hx rfl (hb hby d5_16) rfl rfl ?_
      show own_S p e below T19 m 17 #[rv a1, iv (1 : Int32), iv (1 : Int32)] [(.ref a1), (.int (1 : Int32))] _
      refine st20 _ ?_
      refine XS.icmpNo X20.here hx rfl (hb hby d5_20) rfl (tlt (by decide : (1 : Int32) < (3 : Int32))).2.1 ?_
      refine XS.aloadN X20.here hx rfl (hb hby d5_23) rfl rfl ?_
      show own_S p e below T20 m 24 #[rv a1, iv (1 : Int32), iv (1 : Int32)] [(.ref a1)] _
      refine st21 _ ?_
      refine XS.iloadN X21.here hx rfl (hb hby d5_27) rfl ?_
      refine X21.caload hx (j := (1 : Int32)) (v := (.int x1)) (by rw [e21]; exact Ar22.1) (State.isArrayOf_alike hZ.alike Ar22.2.1) Ar22.2.2 hin22 hat22 (g := (mkF m 28 #[rv a1, iv (1 : Int32), iv (1 : Int32)] [(.int (1 : Int32)), (.ref t)])) rfl rfl (hb hby d5_28) _ ?_
      show own_S p e below T21 m 29 #[rv a1, iv (1 : Int32), iv (1 : Int32)] [(.int x1)] _
      refine XS.aloadN X21.here hx rfl (hb hby d5_29) rfl rfl ?_
      refine st23 _ ?_
      refine XS.iloadN X23.here hx rfl (hb hby d5_33) rfl ?_
      show own_S p e below T23 m 34 #[rv a1, iv (1 : Int32), iv (1 : Int32)] [(.int (1 : Int32)), (.ref t), (.int x1)] _
      refine XS.iconst X23.here hx rfl (hb hby d5_34) ?_
      refine XS.isub X23.here hx rfl (hb hby d5_35) rfl ?_
      refine X23.caload hx (j := (0 : Int32)) (v := (.int x0)) (by rw [e23]; exact Ar24.1) (State.isArrayOf_alike hZ.alike Ar24.2.1) Ar24.2.2 hin24 hat24 (g := (mkF m 36 #[rv a1, iv (1 : Int32), iv (1 : Int32)] [(.int (0 : Int32)), (.ref t), (.int x1)])) rfl rfl (hb hby d5_36) _ ?_
      show own_S p e below T23 m 37 #[rv a1, iv (1 : Int32), iv (1 : Int32)] [(.int x0), (.int x1)] _
      refine XS.iconst X23.here hx rfl (hb hby d5_37) ?_
      refine XS.iadd X23.here hx rfl (hb hby d5_38) rfl ?_
      exact k)
    by_cases hc39_25 : x1 = (x0 + (1 : Int32))
    ·  -- pc 39 yes
      obtain ⟨T27, X27, e27, st27⟩ := getF X23 hx hZ hown (host := "") (Or.inl (hw _ (List.mem_of_getElem? (i := 12) rfl))) Via.refl e23 F_c' (g := (mkF m 17 #[rv a1, iv (1 : Int32), iv (2 : Int32)] [(.ref a1), (.int (2 : Int32))])) rfl rfl (hb hby d5_17)
      obtain ⟨T28, X28, e28, st28⟩ := getF X27 hx hZ hown (host := "") (Or.inl (hw _ (List.mem_of_getElem? (i := 10) rfl))) Via.refl e27 F_v (g := (mkF m 24 #[rv a1, iv (1 : Int32), iv (2 : Int32)] [(.ref a1)])) rfl rfl (hb hby d5_24)
      obtain ⟨cl29, Ar29, q29, S29, M29, H29, G29⟩ := id V_t
      have hin29 : ¬ ((2 : Int32) < 0 ∨ cl29.slots.size ≤ ((2 : Int32)).toNatClampNeg) := inb_of S29 ⟨by decide, by decide⟩
      have hat29 : cl29.slots[((2 : Int32)).toNatClampNeg]? = some (.int x2) := H29.at hin29 hv2
      obtain ⟨T30, X30, e30, st30⟩ := getF X28 hx hZ hown (host := "") (Or.inl (hw _ (List.mem_of_getElem? (i := 10) rfl))) Via.refl e28 F_v (g := (mkF m 30 #[rv a1, iv (1 : Int32), iv (2 : Int32)] [(.ref a1), (.int x2)])) rfl rfl (hb hby d5_30)
      obtain ⟨cl31, Ar31, q31, S31, M31, H31, G31⟩ := id V_t
      have hin31 : ¬ ((1 : Int32) < 0 ∨ cl31.slots.size ≤ ((1 : Int32)).toNatClampNeg) := inb_of S31 ⟨by decide, by decide⟩
      have hat31 : cl31.slots[((1 : Int32)).toNatClampNeg]? = some (.int x1) := H31.at hin31 hv1
      have pre33 : ∀ tg, own_S p e below T30 m 39 #[rv a1, iv (1 : Int32), iv (2 : Int32)] [(.int (x1 + (1 : Int32))), (.int x2)] tg → Steps p.tables e below (s₁.setTop (entryFrame m #[(.ref a1)] 3)) tg := fun tg k => pre26 tg (by
        show own_S p e below T23 m 39 #[rv a1, iv (1 : Int32), iv (1 : Int32)] [(.int (x0 + (1 : Int32))), (.int x1)] _
        refine XS.icmpYes X23.here hx rfl (pc0 := 39) (pc' := 45) rfl (hb hby d5_39) rfl (teq hc39_25).1 (by decide) (by decide) ?_
        refine XS.iinc X23.here hx rfl (hb hby d5_45) rfl (l' := #[rv a1, iv (1 : Int32), iv (2 : Int32)]) rfl ?_
        refine XS.goto X23.here hx rfl (pc0 := 48) (pc' := 15) rfl (hb hby d5_48) (by decide) (by decide) ?_
        show own_S p e below T23 m 15 #[rv a1, iv (1 : Int32), iv (2 : Int32)] [] _
        refine XS.iloadN X23.here hx rfl (hb hby d5_15) rfl ?_
        refine XS.aloadN X23.here hx rfl (hb hby d5_16) rfl rfl ?_
        refine st27 _ ?_
        show own_S p e below T27 m 20 #[rv a1, iv (1 : Int32), iv (2 : Int32)] [(.int (3 : Int32)), (.int (2 : Int32))] _
        refine XS.icmpNo X27.here hx rfl (hb hby d5_20) rfl (tlt (by decide : (2 : Int32) < (3 : Int32))).2.1 ?_
        refine XS.aloadN X27.here hx rfl (hb hby d5_23) rfl rfl ?_
        refine st28 _ ?_
        show own_S p e below T28 m 27 #[rv a1, iv (1 : Int32), iv (2 : Int32)] [(.ref t)] _
        refine XS.iloadN X28.here hx rfl (hb hby d5_27) rfl ?_
        refine X28.caload hx (j := (2 : Int32)) (v := (.int x2)) (by rw [e28]; exact Ar29.1) (State.isArrayOf_alike hZ.alike Ar29.2.1) Ar29.2.2 hin29 hat29 (g := (mkF m 28 #[rv a1, iv (1 : Int32), iv (2 : Int32)] [(.int (2 : Int32)), (.ref t)])) rfl rfl (hb hby d5_28) _ ?_
        refine XS.aloadN X28.here hx rfl (hb hby d5_29) rfl rfl ?_
        show own_S p e below T28 m 30 #[rv a1, iv (1 : Int32), iv (2 : Int32)] [(.ref a1), (.int x2)] _
        refine st30 _ ?_
        refine XS.iloadN X30.here hx rfl (hb hby d5_33) rfl ?_
        refine XS.iconst X30.here hx rfl (hb hby d5_34) ?_
        show own_S p e below T30 m 35 #[rv a1, iv (1 : Int32), iv (2 : Int32)] [(.int (1 : Int32)), (.int (2 : Int32)), (.ref t), (.int x2)] _
        refine XS.isub X30.here hx rfl (hb hby d5_35) rfl ?_
        refine X30.caload hx (j := (1 : Int32)) (v := (.int x1)) (by rw [e30]; exact Ar31.1) (State.isArrayOf_alike hZ.alike Ar31.2.1) Ar31.2.2 hin31 hat31 (g := (mkF m 36 #[rv a1, iv (1 : Int32), iv (2 : Int32)] [(.int (1 : Int32)), (.ref t), (.int x2)])) rfl rfl (hb hby d5_36) _ ?_
        refine XS.iconst X30.here hx rfl (hb hby d5_37) ?_
        show own_S p e below T30 m 38 #[rv a1, iv (1 : Int32), iv (2 : Int32)] [(.int (1 : Int32)), (.int x1), (.int x2)] _
        refine XS.iadd X30.here hx rfl (hb hby d5_38) rfl ?_
        exact k)
      by_cases hc39_32 : x2 = (x1 + (1 : Int32))
      ·  -- pc 39 yes
        obtain ⟨T34, X34, e34, st34⟩ := getF X30 hx hZ hown (host := "") (Or.inl (hw _ (List.mem_of_getElem? (i := 12) rfl))) Via.refl e30 F_c' (g := (mkF m 17 #[rv a1, iv (1 : Int32), iv (3 : Int32)] [(.ref a1), (.int (3 : Int32))])) rfl rfl (hb hby d5_17)
        have pre35 : ∀ tg, own_S p e below T34 m 52 #[rv a1, iv (1 : Int32), iv (3 : Int32)] [(.int (1 : Int32))] tg → Steps p.tables e below (s₁.setTop (entryFrame m #[(.ref a1)] 3)) tg := fun tg k => pre33 tg (by
          show own_S p e below T30 m 39 #[rv a1, iv (1 : Int32), iv (2 : Int32)] [(.int (x1 + (1 : Int32))), (.int x2)] _
          refine XS.icmpYes X30.here hx rfl (pc0 := 39) (pc' := 45) rfl (hb hby d5_39) rfl (teq hc39_32).1 (by decide) (by decide) ?_
          refine XS.iinc X30.here hx rfl (hb hby d5_45) rfl (l' := #[rv a1, iv (1 : Int32), iv (3 : Int32)]) rfl ?_
          refine XS.goto X30.here hx rfl (pc0 := 48) (pc' := 15) rfl (hb hby d5_48) (by decide) (by decide) ?_
          show own_S p e below T30 m 15 #[rv a1, iv (1 : Int32), iv (3 : Int32)] [] _
          refine XS.iloadN X30.here hx rfl (hb hby d5_15) rfl ?_
          refine XS.aloadN X30.here hx rfl (hb hby d5_16) rfl rfl ?_
          refine st34 _ ?_
          show own_S p e below T34 m 20 #[rv a1, iv (1 : Int32), iv (3 : Int32)] [(.int (3 : Int32)), (.int (3 : Int32))] _
          refine XS.icmpYes X34.here hx rfl (pc0 := 20) (pc' := 51) rfl (hb hby d5_20) rfl (flt (by decide : ¬ ((3 : Int32) < (3 : Int32)))).2.1 (by decide) (by decide) ?_
          refine XS.iloadN X34.here hx rfl (hb hby d5_51) rfl ?_
          exact k)
        obtain ⟨fs, hr, hrun, hended, hW, hsame⟩ := X34.leave (v := some (.int (1 : Int32))) (fun h => by rw [Bd.returns] at h; cases h)
        refine ⟨_, _, pre35 _ ?_, hrun, hended, _, _, rfl, ?_, ⟨_, rfl⟩, hW, hsame.mono (by decide) (by decide)⟩
        · show own_S p e below T34 m 52 #[rv a1, iv (1 : Int32), iv (3 : Int32)] [(.int (1 : Int32))] _
          exact retI X34 hx Bd.returns (hb hby d5_52) hr
        · show QRun Z a1 t k [x0, x1, x2] vs h0 n0 _ T34.heap _
          rw [e34]
          refine ⟨?_, N0, rfl⟩
          simp only [own_runs]
          rw [if_pos hc39_25]
          rw [if_pos hc39_32]
          try rfl
      ·  -- pc 39 no
        obtain ⟨T36, X36, e36, st36⟩ := getF X30 hx hZ hown (host := "") (Or.inl (hw _ (List.mem_of_getElem? (i := 12) rfl))) Via.refl e30 F_c' (g := (mkF m 17 #[rv a1, iv (2 : Int32), iv (3 : Int32)] [(.ref a1), (.int (3 : Int32))])) rfl rfl (hb hby d5_17)
        have pre37 : ∀ tg, own_S p e below T36 m 52 #[rv a1, iv (2 : Int32), iv (3 : Int32)] [(.int (2 : Int32))] tg → Steps p.tables e below (s₁.setTop (entryFrame m #[(.ref a1)] 3)) tg := fun tg k => pre33 tg (by
          show own_S p e below T30 m 39 #[rv a1, iv (1 : Int32), iv (2 : Int32)] [(.int (x1 + (1 : Int32))), (.int x2)] _
          refine XS.icmpNo X30.here hx rfl (hb hby d5_39) rfl (feq hc39_32).1 ?_
          refine XS.iinc X30.here hx rfl (hb hby d5_42) rfl (l' := #[rv a1, iv (2 : Int32), iv (2 : Int32)]) rfl ?_
          refine XS.iinc X30.here hx rfl (hb hby d5_45) rfl (l' := #[rv a1, iv (2 : Int32), iv (3 : Int32)]) rfl ?_
          show own_S p e below T30 m 48 #[rv a1, iv (2 : Int32), iv (3 : Int32)] [] _
          refine XS.goto X30.here hx rfl (pc0 := 48) (pc' := 15) rfl (hb hby d5_48) (by decide) (by decide) ?_
          refine XS.iloadN X30.here hx rfl (hb hby d5_15) rfl ?_
          refine XS.aloadN X30.here hx rfl (hb hby d5_16) rfl rfl ?_
          show own_S p e below T30 m 17 #[rv a1, iv (2 : Int32), iv (3 : Int32)] [(.ref a1), (.int (3 : Int32))] _
          refine st36 _ ?_
          refine XS.icmpYes X36.here hx rfl (pc0 := 20) (pc' := 51) rfl (hb hby d5_20) rfl (flt (by decide : ¬ ((3 : Int32) < (3 : Int32)))).2.1 (by decide) (by decide) ?_
          refine XS.iloadN X36.here hx rfl (hb hby d5_51) rfl ?_
          exact k)
        obtain ⟨fs, hr, hrun, hended, hW, hsame⟩ := X36.leave (v := some (.int (2 : Int32))) (fun h => by rw [Bd.returns] at h; cases h)
        refine ⟨_, _, pre37 _ ?_, hrun, hended, _, _, rfl, ?_, ⟨_, rfl⟩, hW, hsame.mono (by decide) (by decide)⟩
        · show own_S p e below T36 m 52 #[rv a1, iv (2 : Int32), iv (3 : Int32)] [(.int (2 : Int32))] _
          exact retI X36 hx Bd.returns (hb hby d5_52) hr
        · show QRun Z a1 t k [x0, x1, x2] vs h0 n0 _ T36.heap _
          rw [e36]
          refine ⟨?_, N0, rfl⟩
          simp only [own_runs]
          rw [if_pos hc39_25]
          rw [if_neg hc39_32]
          try rfl
    ·  -- pc 39 no
      obtain ⟨T38, X38, e38, st38⟩ := getF X23 hx hZ hown (host := "") (Or.inl (hw _ (List.mem_of_getElem? (i := 12) rfl))) Via.refl e23 F_c' (g := (mkF m 17 #[rv a1, iv (2 : Int32), iv (2 : Int32)] [(.ref a1), (.int (2 : Int32))])) rfl rfl (hb hby d5_17)
      obtain ⟨T39, X39, e39, st39⟩ := getF X38 hx hZ hown (host := "") (Or.inl (hw _ (List.mem_of_getElem? (i := 10) rfl))) Via.refl e38 F_v (g := (mkF m 24 #[rv a1, iv (2 : Int32), iv (2 : Int32)] [(.ref a1)])) rfl rfl (hb hby d5_24)
      obtain ⟨cl40, Ar40, q40, S40, M40, H40, G40⟩ := id V_t
      have hin40 : ¬ ((2 : Int32) < 0 ∨ cl40.slots.size ≤ ((2 : Int32)).toNatClampNeg) := inb_of S40 ⟨by decide, by decide⟩
      have hat40 : cl40.slots[((2 : Int32)).toNatClampNeg]? = some (.int x2) := H40.at hin40 hv2
      obtain ⟨T41, X41, e41, st41⟩ := getF X39 hx hZ hown (host := "") (Or.inl (hw _ (List.mem_of_getElem? (i := 10) rfl))) Via.refl e39 F_v (g := (mkF m 30 #[rv a1, iv (2 : Int32), iv (2 : Int32)] [(.ref a1), (.int x2)])) rfl rfl (hb hby d5_30)
      obtain ⟨cl42, Ar42, q42, S42, M42, H42, G42⟩ := id V_t
      have hin42 : ¬ ((1 : Int32) < 0 ∨ cl42.slots.size ≤ ((1 : Int32)).toNatClampNeg) := inb_of S42 ⟨by decide, by decide⟩
      have hat42 : cl42.slots[((1 : Int32)).toNatClampNeg]? = some (.int x1) := H42.at hin42 hv1
      have pre44 : ∀ tg, own_S p e below T41 m 39 #[rv a1, iv (2 : Int32), iv (2 : Int32)] [(.int (x1 + (1 : Int32))), (.int x2)] tg → Steps p.tables e below (s₁.setTop (entryFrame m #[(.ref a1)] 3)) tg := fun tg k => pre26 tg (by
        show own_S p e below T23 m 39 #[rv a1, iv (1 : Int32), iv (1 : Int32)] [(.int (x0 + (1 : Int32))), (.int x1)] _
        refine XS.icmpNo X23.here hx rfl (hb hby d5_39) rfl (feq hc39_25).1 ?_
        refine XS.iinc X23.here hx rfl (hb hby d5_42) rfl (l' := #[rv a1, iv (2 : Int32), iv (1 : Int32)]) rfl ?_
        refine XS.iinc X23.here hx rfl (hb hby d5_45) rfl (l' := #[rv a1, iv (2 : Int32), iv (2 : Int32)]) rfl ?_
        show own_S p e below T23 m 48 #[rv a1, iv (2 : Int32), iv (2 : Int32)] [] _
        refine XS.goto X23.here hx rfl (pc0 := 48) (pc' := 15) rfl (hb hby d5_48) (by decide) (by decide) ?_
        refine XS.iloadN X23.here hx rfl (hb hby d5_15) rfl ?_
        refine XS.aloadN X23.here hx rfl (hb hby d5_16) rfl rfl ?_
        show own_S p e below T23 m 17 #[rv a1, iv (2 : Int32), iv (2 : Int32)] [(.ref a1), (.int (2 : Int32))] _
        refine st38 _ ?_
        refine XS.icmpNo X38.here hx rfl (hb hby d5_20) rfl (tlt (by decide : (2 : Int32) < (3 : Int32))).2.1 ?_
        refine XS.aloadN X38.here hx rfl (hb hby d5_23) rfl rfl ?_
        show own_S p e below T38 m 24 #[rv a1, iv (2 : Int32), iv (2 : Int32)] [(.ref a1)] _
        refine st39 _ ?_
        refine XS.iloadN X39.here hx rfl (hb hby d5_27) rfl ?_
        refine X39.caload hx (j := (2 : Int32)) (v := (.int x2)) (by rw [e39]; exact Ar40.1) (State.isArrayOf_alike hZ.alike Ar40.2.1) Ar40.2.2 hin40 hat40 (g := (mkF m 28 #[rv a1, iv (2 : Int32), iv (2 : Int32)] [(.int (2 : Int32)), (.ref t)])) rfl rfl (hb hby d5_28) _ ?_
        show own_S p e below T39 m 29 #[rv a1, iv (2 : Int32), iv (2 : Int32)] [(.int x2)] _
        refine XS.aloadN X39.here hx rfl (hb hby d5_29) rfl rfl ?_
        refine st41 _ ?_
        refine XS.iloadN X41.here hx rfl (hb hby d5_33) rfl ?_
        show own_S p e below T41 m 34 #[rv a1, iv (2 : Int32), iv (2 : Int32)] [(.int (2 : Int32)), (.ref t), (.int x2)] _
        refine XS.iconst X41.here hx rfl (hb hby d5_34) ?_
        refine XS.isub X41.here hx rfl (hb hby d5_35) rfl ?_
        refine X41.caload hx (j := (1 : Int32)) (v := (.int x1)) (by rw [e41]; exact Ar42.1) (State.isArrayOf_alike hZ.alike Ar42.2.1) Ar42.2.2 hin42 hat42 (g := (mkF m 36 #[rv a1, iv (2 : Int32), iv (2 : Int32)] [(.int (1 : Int32)), (.ref t), (.int x2)])) rfl rfl (hb hby d5_36) _ ?_
        show own_S p e below T41 m 37 #[rv a1, iv (2 : Int32), iv (2 : Int32)] [(.int x1), (.int x2)] _
        refine XS.iconst X41.here hx rfl (hb hby d5_37) ?_
        refine XS.iadd X41.here hx rfl (hb hby d5_38) rfl ?_
        exact k)
      by_cases hc39_43 : x2 = (x1 + (1 : Int32))
      ·  -- pc 39 yes
        obtain ⟨T45, X45, e45, st45⟩ := getF X41 hx hZ hown (host := "") (Or.inl (hw _ (List.mem_of_getElem? (i := 12) rfl))) Via.refl e41 F_c' (g := (mkF m 17 #[rv a1, iv (2 : Int32), iv (3 : Int32)] [(.ref a1), (.int (3 : Int32))])) rfl rfl (hb hby d5_17)
        have pre46 : ∀ tg, own_S p e below T45 m 52 #[rv a1, iv (2 : Int32), iv (3 : Int32)] [(.int (2 : Int32))] tg → Steps p.tables e below (s₁.setTop (entryFrame m #[(.ref a1)] 3)) tg := fun tg k => pre44 tg (by
          show own_S p e below T41 m 39 #[rv a1, iv (2 : Int32), iv (2 : Int32)] [(.int (x1 + (1 : Int32))), (.int x2)] _
          refine XS.icmpYes X41.here hx rfl (pc0 := 39) (pc' := 45) rfl (hb hby d5_39) rfl (teq hc39_43).1 (by decide) (by decide) ?_
          refine XS.iinc X41.here hx rfl (hb hby d5_45) rfl (l' := #[rv a1, iv (2 : Int32), iv (3 : Int32)]) rfl ?_
          refine XS.goto X41.here hx rfl (pc0 := 48) (pc' := 15) rfl (hb hby d5_48) (by decide) (by decide) ?_
          show own_S p e below T41 m 15 #[rv a1, iv (2 : Int32), iv (3 : Int32)] [] _
          refine XS.iloadN X41.here hx rfl (hb hby d5_15) rfl ?_
          refine XS.aloadN X41.here hx rfl (hb hby d5_16) rfl rfl ?_
          refine st45 _ ?_
          show own_S p e below T45 m 20 #[rv a1, iv (2 : Int32), iv (3 : Int32)] [(.int (3 : Int32)), (.int (3 : Int32))] _
          refine XS.icmpYes X45.here hx rfl (pc0 := 20) (pc' := 51) rfl (hb hby d5_20) rfl (flt (by decide : ¬ ((3 : Int32) < (3 : Int32)))).2.1 (by decide) (by decide) ?_
          refine XS.iloadN X45.here hx rfl (hb hby d5_51) rfl ?_
          exact k)
        obtain ⟨fs, hr, hrun, hended, hW, hsame⟩ := X45.leave (v := some (.int (2 : Int32))) (fun h => by rw [Bd.returns] at h; cases h)
        refine ⟨_, _, pre46 _ ?_, hrun, hended, _, _, rfl, ?_, ⟨_, rfl⟩, hW, hsame.mono (by decide) (by decide)⟩
        · show own_S p e below T45 m 52 #[rv a1, iv (2 : Int32), iv (3 : Int32)] [(.int (2 : Int32))] _
          exact retI X45 hx Bd.returns (hb hby d5_52) hr
        · show QRun Z a1 t k [x0, x1, x2] vs h0 n0 _ T45.heap _
          rw [e45]
          refine ⟨?_, N0, rfl⟩
          simp only [own_runs]
          rw [if_neg hc39_25]
          rw [if_pos hc39_43]
          try rfl
      ·  -- pc 39 no
        obtain ⟨T47, X47, e47, st47⟩ := getF X41 hx hZ hown (host := "") (Or.inl (hw _ (List.mem_of_getElem? (i := 12) rfl))) Via.refl e41 F_c' (g := (mkF m 17 #[rv a1, iv (3 : Int32), iv (3 : Int32)] [(.ref a1), (.int (3 : Int32))])) rfl rfl (hb hby d5_17)
        have pre48 : ∀ tg, own_S p e below T47 m 52 #[rv a1, iv (3 : Int32), iv (3 : Int32)] [(.int (3 : Int32))] tg → Steps p.tables e below (s₁.setTop (entryFrame m #[(.ref a1)] 3)) tg := fun tg k => pre44 tg (by
          show own_S p e below T41 m 39 #[rv a1, iv (2 : Int32), iv (2 : Int32)] [(.int (x1 + (1 : Int32))), (.int x2)] _
          refine XS.icmpNo X41.here hx rfl (hb hby d5_39) rfl (feq hc39_43).1 ?_
          refine XS.iinc X41.here hx rfl (hb hby d5_42) rfl (l' := #[rv a1, iv (3 : Int32), iv (2 : Int32)]) rfl ?_
          refine XS.iinc X41.here hx rfl (hb hby d5_45) rfl (l' := #[rv a1, iv (3 : Int32), iv (3 : Int32)]) rfl ?_
          show own_S p e below T41 m 48 #[rv a1, iv (3 : Int32), iv (3 : Int32)] [] _
          refine XS.goto X41.here hx rfl (pc0 := 48) (pc' := 15) rfl (hb hby d5_48) (by decide) (by decide) ?_
          refine XS.iloadN X41.here hx rfl (hb hby d5_15) rfl ?_
          refine XS.aloadN X41.here hx rfl (hb hby d5_16) rfl rfl ?_
          show own_S p e below T41 m 17 #[rv a1, iv (3 : Int32), iv (3 : Int32)] [(.ref a1), (.int (3 : Int32))] _
          refine st47 _ ?_
          refine XS.icmpYes X47.here hx rfl (pc0 := 20) (pc' := 51) rfl (hb hby d5_20) rfl (flt (by decide : ¬ ((3 : Int32) < (3 : Int32)))).2.1 (by decide) (by decide) ?_
          refine XS.iloadN X47.here hx rfl (hb hby d5_51) rfl ?_
          exact k)
        obtain ⟨fs, hr, hrun, hended, hW, hsame⟩ := X47.leave (v := some (.int (3 : Int32))) (fun h => by rw [Bd.returns] at h; cases h)
        refine ⟨_, _, pre48 _ ?_, hrun, hended, _, _, rfl, ?_, ⟨_, rfl⟩, hW, hsame.mono (by decide) (by decide)⟩
        · show own_S p e below T47 m 52 #[rv a1, iv (3 : Int32), iv (3 : Int32)] [(.int (3 : Int32))] _
          exact retI X47 hx Bd.returns (hb hby d5_52) hr
        · show QRun Z a1 t k [x0, x1, x2] vs h0 n0 _ T47.heap _
          rw [e47]
          refine ⟨?_, N0, rfl⟩
          simp only [own_runs]
          rw [if_neg hc39_25]
          rw [if_neg hc39_43]
          try rfl
  ·  -- case
    obtain ⟨x0, x1, x2, x3, rfl⟩ := own_len4 hl
    have F_c' : Fld Z h0 a1 "com/example/bitstrata/bitstrata/ArrayContainer" "cardinality" "I" (.int (4 : Int32)) := F_c
    have hv0 : vs.getD 0 (.int (0 : Int32)) = .int x0 := hpre 0 (Nat.le_of_ble_eq_true rfl)
    have hv1 : vs.getD 1 (.int (0 : Int32)) = .int x1 := hpre 1 (Nat.le_of_ble_eq_true rfl)
    have hv2 : vs.getD 2 (.int (0 : Int32)) = .int x2 := hpre 2 (Nat.le_of_ble_eq_true rfl)
    have hv3 : vs.getD 3 (.int (0 : Int32)) = .int x3 := hpre 3 (Nat.le_of_ble_eq_true rfl)
    obtain ⟨T49, X49, e49, st49⟩ := getF X0 hx hZ hown (host := "") (Or.inl (hw _ (List.mem_of_getElem? (i := 12) rfl))) Via.refl e0 F_c' (g := (mkF m 1 #[rv a1, .unset, .unset] [(.ref a1)])) rfl rfl (hb hby d5_1)
    obtain ⟨T50, X50, e50, st50⟩ := getF X49 hx hZ hown (host := "") (Or.inl (hw _ (List.mem_of_getElem? (i := 12) rfl))) Via.refl e49 F_c' (g := (mkF m 17 #[rv a1, iv (1 : Int32), iv (1 : Int32)] [(.ref a1), (.int (1 : Int32))])) rfl rfl (hb hby d5_17)
    obtain ⟨T51, X51, e51, st51⟩ := getF X50 hx hZ hown (host := "") (Or.inl (hw _ (List.mem_of_getElem? (i := 10) rfl))) Via.refl e50 F_v (g := (mkF m 24 #[rv a1, iv (1 : Int32), iv (1 : Int32)] [(.ref a1)])) rfl rfl (hb hby d5_24)
    obtain ⟨cl52, Ar52, q52, S52, M52, H52, G52⟩ := id V_t
    have hin52 : ¬ ((1 : Int32) < 0 ∨ cl52.slots.size ≤ ((1 : Int32)).toNatClampNeg) := inb_of S52 ⟨by decide, by decide⟩
    have hat52 : cl52.slots[((1 : Int32)).toNatClampNeg]? = some (.int x1) := H52.at hin52 hv1
    obtain ⟨T53, X53, e53, st53⟩ := getF X51 hx hZ hown (host := "") (Or.inl (hw _ (List.mem_of_getElem? (i := 10) rfl))) Via.refl e51 F_v (g := (mkF m 30 #[rv a1, iv (1 : Int32), iv (1 : Int32)] [(.ref a1), (.int x1)])) rfl rfl (hb hby d5_30)
    obtain ⟨cl54, Ar54, q54, S54, M54, H54, G54⟩ := id V_t
    have hin54 : ¬ ((0 : Int32) < 0 ∨ cl54.slots.size ≤ ((0 : Int32)).toNatClampNeg) := inb_of S54 ⟨by decide, by decide⟩
    have hat54 : cl54.slots[((0 : Int32)).toNatClampNeg]? = some (.int x0) := H54.at hin54 hv0
    have pre56 : ∀ tg, own_S p e below T53 m 39 #[rv a1, iv (1 : Int32), iv (1 : Int32)] [(.int (x0 + (1 : Int32))), (.int x1)] tg → Steps p.tables e below (s₁.setTop (entryFrame m #[(.ref a1)] 3)) tg := fun tg k => pre0 tg (by
      show own_S p e below s₁ m 0 #[rv a1, .unset, .unset] [] _
      refine XS.aloadN X0.here hx rfl (hb hby d5_0) rfl rfl ?_
      refine st49 _ ?_
      refine XS.ifYes X49.here hx rfl (pc0 := 4) (pc' := 11) rfl (hb hby d5_4) rfl ((if0 _ _).trans (feq (by decide : ¬ ((4 : Int32) = (0 : Int32)))).2) (by decide) (by decide) ?_
      show own_S p e below T49 m 11 #[rv a1, .unset, .unset] [] _
      refine XS.iconst X49.here hx rfl (hb hby d5_11) ?_
      refine XS.istoreN X49.here hx rfl (hb hby d5_12) rfl (l' := #[rv a1, iv (1 : Int32), .unset]) rfl ?_
      refine XS.iconst X49.here hx rfl (hb hby d5_13) ?_
      show own_S p e below T49 m 14 #[rv a1, iv (1 : Int32), .unset] [(.int (1 : Int32))] _
      refine XS.istoreN X49.here hx rfl (hb hby d5_14) rfl (l' := #[rv a1, iv (1 : Int32), iv (1 : Int32)]) rfl ?_
      refine XS.iloadN X49.here hx rfl (hb hby d5_15) rfl ?_
      refine XS.aloadN X49.here hx rfl (hb hby d5_16) rfl rfl ?_
      show own_S p e below T49 m 17 #[rv a1, iv (1 : Int32), iv (1 : Int32)] [(.ref a1), (.int (1 : Int32))] _
      refine st50 _ ?_
      refine XS.icmpNo X50.here hx rfl (hb hby d5_20) rfl (tlt (by decide : (1 : Int32) < (4 : Int32))).2.1 ?_
      refine XS.aloadN X50.here hx rfl (hb hby d5_23) rfl rfl ?_
      show own_S p e below T50 m 24 #[rv a1, iv (1 : Int32), iv (1 : Int32)] [(.ref a1)] _
      refine st51 _ ?_
      refine XS.iloadN X51.here hx rfl (hb hby d5_27) rfl ?_
      refine X51.caload hx (j := (1 : Int32)) (v := (.int x1)) (by rw [e51]; exact Ar52.1) (State.isArrayOf_alike hZ.alike Ar52.2.1) Ar52.2.2 hin52 hat52 (g := (mkF m 28 #[rv a1, iv (1 : Int32), iv (1 : Int32)] [(.int (1 : Int32)), (.ref t)])) rfl rfl (hb hby d5_28) _ ?_
      show own_S p e below T51 m 29 #[rv a1, iv (1 : Int32), iv (1 : Int32)] [(.int x1)] _
      refine XS.aloadN X51.here hx rfl (hb hby d5_29) rfl rfl ?_
      refine st53 _ ?_
      refine XS.iloadN X53.here hx rfl (hb hby d5_33) rfl ?_
      show own_S p e below T53 m 34 #[rv a1, iv (1 : Int32), iv (1 : Int32)] [(.int (1 : Int32)), (.ref t), (.int x1)] _
      refine XS.iconst X53.here hx rfl (hb hby d5_34) ?_
      refine XS.isub X53.here hx rfl (hb hby d5_35) rfl ?_
      refine X53.caload hx (j := (0 : Int32)) (v := (.int x0)) (by rw [e53]; exact Ar54.1) (State.isArrayOf_alike hZ.alike Ar54.2.1) Ar54.2.2 hin54 hat54 (g := (mkF m 36 #[rv a1, iv (1 : Int32), iv (1 : Int32)] [(.int (0 : Int32)), (.ref t), (.int x1)])) rfl rfl (hb hby d5_36) _ ?_
      show own_S p e below T53 m 37 #[rv a1, iv (1 : Int32), iv (1 : Int32)] [(.int x0), (.int x1)] _
      refine XS.iconst X53.here hx rfl (hb hby d5_37) ?_
      refine XS.iadd X53.here hx rfl (hb hby d5_38) rfl ?_
      exact k)
    by_cases hc39_55 : x1 = (x0 + (1 : Int32))
    ·  -- pc 39 yes
      obtain ⟨T57, X57, e57, st57⟩ := getF X53 hx hZ hown (host := "") (Or.inl (hw _ (List.mem_of_getElem? (i := 12) rfl))) Via.refl e53 F_c' (g := (mkF m 17 #[rv a1, iv (1 : Int32), iv (2 : Int32)] [(.ref a1), (.int (2 : Int32))])) rfl rfl (hb hby d5_17)
      obtain ⟨T58, X58, e58, st58⟩ := getF X57 hx hZ hown (host := "") (Or.inl (hw _ (List.mem_of_getElem? (i := 10) rfl))) Via.refl e57 F_v (g := (mkF m 24 #[rv a1, iv (1 : Int32), iv (2 : Int32)] [(.ref a1)])) rfl rfl (hb hby d5_24)
      obtain ⟨cl59, Ar59, q59, S59, M59, H59, G59⟩ := id V_t
      have hin59 : ¬ ((2 : Int32) < 0 ∨ cl59.slots.size ≤ ((2 : Int32)).toNatClampNeg) := inb_of S59 ⟨by decide, by decide⟩
      have hat59 : cl59.slots[((2 : Int32)).toNatClampNeg]? = some (.int x2) := H59.at hin59 hv2
      obtain ⟨T60, X60, e60, st60⟩ := getF X58 hx hZ hown (host := "") (Or.inl (hw _ (List.mem_of_getElem? (i := 10) rfl))) Via.refl e58 F_v (g := (mkF m 30 #[rv a1, iv (1 : Int32), iv (2 : Int32)] [(.ref a1), (.int x2)])) rfl rfl (hb hby d5_30)
      obtain ⟨cl61, Ar61, q61, S61, M61, H61, G61⟩ := id V_t
      have hin61 : ¬ ((1 : Int32) < 0 ∨ cl61.slots.size ≤ ((1 : Int32)).toNatClampNeg) := inb_of S61 ⟨by decide, by decide⟩
      have hat61 : cl61.slots[((1 : Int32)).toNatClampNeg]? = some (.int x1) := H61.at hin61 hv1
      have pre63 : ∀ tg, own_S p e below T60 m 39 #[rv a1, iv (1 : Int32), iv (2 : Int32)] [(.int (x1 + (1 : Int32))), (.int x2)] tg → Steps p.tables e below (s₁.setTop (entryFrame m #[(.ref a1)] 3)) tg := fun tg k => pre56 tg (by
        show own_S p e below T53 m 39 #[rv a1, iv (1 : Int32), iv (1 : Int32)] [(.int (x0 + (1 : Int32))), (.int x1)] _
        refine XS.icmpYes X53.here hx rfl (pc0 := 39) (pc' := 45) rfl (hb hby d5_39) rfl (teq hc39_55).1 (by decide) (by decide) ?_
        refine XS.iinc X53.here hx rfl (hb hby d5_45) rfl (l' := #[rv a1, iv (1 : Int32), iv (2 : Int32)]) rfl ?_
        refine XS.goto X53.here hx rfl (pc0 := 48) (pc' := 15) rfl (hb hby d5_48) (by decide) (by decide) ?_
        show own_S p e below T53 m 15 #[rv a1, iv (1 : Int32), iv (2 : Int32)] [] _
        refine XS.iloadN X53.here hx rfl (hb hby d5_15) rfl ?_
        refine XS.aloadN X53.here hx rfl (hb hby d5_16) rfl rfl ?_
        refine st57 _ ?_
        show own_S p e below T57 m 20 #[rv a1, iv (1 : Int32), iv (2 : Int32)] [(.int (4 : Int32)), (.int (2 : Int32))] _
        refine XS.icmpNo X57.here hx rfl (hb hby d5_20) rfl (tlt (by decide : (2 : Int32) < (4 : Int32))).2.1 ?_
        refine XS.aloadN X57.here hx rfl (hb hby d5_23) rfl rfl ?_
        refine st58 _ ?_
        show own_S p e below T58 m 27 #[rv a1, iv (1 : Int32), iv (2 : Int32)] [(.ref t)] _
        refine XS.iloadN X58.here hx rfl (hb hby d5_27) rfl ?_
        refine X58.caload hx (j := (2 : Int32)) (v := (.int x2)) (by rw [e58]; exact Ar59.1) (State.isArrayOf_alike hZ.alike Ar59.2.1) Ar59.2.2 hin59 hat59 (g := (mkF m 28 #[rv a1, iv (1 : Int32), iv (2 : Int32)] [(.int (2 : Int32)), (.ref t)])) rfl rfl (hb hby d5_28) _ ?_
        refine XS.aloadN X58.here hx rfl (hb hby d5_29) rfl rfl ?_
        show own_S p e below T58 m 30 #[rv a1, iv (1 : Int32), iv (2 : Int32)] [(.ref a1), (.int x2)] _
        refine st60 _ ?_
        refine XS.iloadN X60.here hx rfl (hb hby d5_33) rfl ?_
        refine XS.iconst X60.here hx rfl (hb hby d5_34) ?_
        show own_S p e below T60 m 35 #[rv a1, iv (1 : Int32), iv (2 : Int32)] [(.int (1 : Int32)), (.int (2 : Int32)), (.ref t), (.int x2)] _
        refine XS.isub X60.here hx rfl (hb hby d5_35) rfl ?_
        refine X60.caload hx (j := (1 : Int32)) (v := (.int x1)) (by rw [e60]; exact Ar61.1) (State.isArrayOf_alike hZ.alike Ar61.2.1) Ar61.2.2 hin61 hat61 (g := (mkF m 36 #[rv a1, iv (1 : Int32), iv (2 : Int32)] [(.int (1 : Int32)), (.ref t), (.int x2)])) rfl rfl (hb hby d5_36) _ ?_
        refine XS.iconst X60.here hx rfl (hb hby d5_37) ?_
        show own_S p e below T60 m 38 #[rv a1, iv (1 : Int32), iv (2 : Int32)] [(.int (1 : Int32)), (.int x1), (.int x2)] _
        refine XS.iadd X60.here hx rfl (hb hby d5_38) rfl ?_
        exact k)
      by_cases hc39_62 : x2 = (x1 + (1 : Int32))
      ·  -- pc 39 yes
        obtain ⟨T64, X64, e64, st64⟩ := getF X60 hx hZ hown (host := "") (Or.inl (hw _ (List.mem_of_getElem? (i := 12) rfl))) Via.refl e60 F_c' (g := (mkF m 17 #[rv a1, iv (1 : Int32), iv (3 : Int32)] [(.ref a1), (.int (3 : Int32))])) rfl rfl (hb hby d5_17)
        obtain ⟨T65, X65, e65, st65⟩ := getF X64 hx hZ hown (host := "") (Or.inl (hw _ (List.mem_of_getElem? (i := 10) rfl))) Via.refl e64 F_v (g := (mkF m 24 #[rv a1, iv (1 : Int32), iv (3 : Int32)] [(.ref a1)])) rfl rfl (hb hby d5_24)
        obtain ⟨cl66, Ar66, q66, S66, M66, H66, G66⟩ := id V_t
        have hin66 : ¬ ((3 : Int32) < 0 ∨ cl66.slots.size ≤ ((3 : Int32)).toNatClampNeg) := inb_of S66 ⟨by decide, by decide⟩
        have hat66 : cl66.slots[((3 : Int32)).toNatClampNeg]? = some (.int x3) := H66.at hin66 hv3
        obtain ⟨T67, X67, e67, st67⟩ := getF X65 hx hZ hown (host := "") (Or.inl (hw _ (List.mem_of_getElem? (i := 10) rfl))) Via.refl e65 F_v (g := (mkF m 30 #[rv a1, iv (1 : Int32), iv (3 : Int32)] [(.ref a1), (.int x3)])) rfl rfl (hb hby d5_30)
        obtain ⟨cl68, Ar68, q68, S68, M68, H68, G68⟩ := id V_t
        have hin68 : ¬ ((2 : Int32) < 0 ∨ cl68.slots.size ≤ ((2 : Int32)).toNatClampNeg) := inb_of S68 ⟨by decide, by decide⟩
        have hat68 : cl68.slots[((2 : Int32)).toNatClampNeg]? = some (.int x2) := H68.at hin68 hv2
        have pre70 : ∀ tg, own_S p e below T67 m 39 #[rv a1, iv (1 : Int32), iv (3 : Int32)] [(.int (x2 + (1 : Int32))), (.int x3)] tg → Steps p.tables e below (s₁.setTop (entryFrame m #[(.ref a1)] 3)) tg := fun tg k => pre63 tg (by
          show own_S p e below T60 m 39 #[rv a1, iv (1 : Int32), iv (2 : Int32)] [(.int (x1 + (1 : Int32))), (.int x2)] _
          refine XS.icmpYes X60.here hx rfl (pc0 := 39) (pc' := 45) rfl (hb hby d5_39) rfl (teq hc39_62).1 (by decide) (by decide) ?_
          refine XS.iinc X60.here hx rfl (hb hby d5_45) rfl (l' := #[rv a1, iv (1 : Int32), iv (3 : Int32)]) rfl ?_
          refine XS.goto X60.here hx rfl (pc0 := 48) (pc' := 15) rfl (hb hby d5_48) (by decide) (by decide) ?_
          show own_S p e below T60 m 15 #[rv a1, iv (1 : Int32), iv (3 : Int32)] [] _
          refine XS.iloadN X60.here hx rfl (hb hby d5_15) rfl ?_
          refine XS.aloadN X60.here hx rfl (hb hby d5_16) rfl rfl ?_
          refine st64 _ ?_
          show own_S p e below T64 m 20 #[rv a1, iv (1 : Int32), iv (3 : Int32)] [(.int (4 : Int32)), (.int (3 : Int32))] _
          refine XS.icmpNo X64.here hx rfl (hb hby d5_20) rfl (tlt (by decide : (3 : Int32) < (4 : Int32))).2.1 ?_
          refine XS.aloadN X64.here hx rfl (hb hby d5_23) rfl rfl ?_
          refine st65 _ ?_
          show own_S p e below T65 m 27 #[rv a1, iv (1 : Int32), iv (3 : Int32)] [(.ref t)] _
          refine XS.iloadN X65.here hx rfl (hb hby d5_27) rfl ?_
          refine X65.caload hx (j := (3 : Int32)) (v := (.int x3)) (by rw [e65]; exact Ar66.1) (State.isArrayOf_alike hZ.alike Ar66.2.1) Ar66.2.2 hin66 hat66 (g := (mkF m 28 #[rv a1, iv (1 : Int32), iv (3 : Int32)] [(.int (3 : Int32)), (.ref t)])) rfl rfl (hb hby d5_28) _ ?_
          refine XS.aloadN X65.here hx rfl (hb hby d5_29) rfl rfl ?_
          show own_S p e below T65 m 30 #[rv a1, iv (1 : Int32), iv (3 : Int32)] [(.ref a1), (.int x3)] _
          refine st67 _ ?_
          refine XS.iloadN X67.here hx rfl (hb hby d5_33) rfl ?_
          refine XS.iconst X67.here hx rfl (hb hby d5_34) ?_
          show own_S p e below T67 m 35 #[rv a1, iv (1 : Int32), iv (3 : Int32)] [(.int (1 : Int32)), (.int (3 : Int32)), (.ref t), (.int x3)] _
          refine XS.isub X67.here hx rfl (hb hby d5_35) rfl ?_
          refine X67.caload hx (j := (2 : Int32)) (v := (.int x2)) (by rw [e67]; exact Ar68.1) (State.isArrayOf_alike hZ.alike Ar68.2.1) Ar68.2.2 hin68 hat68 (g := (mkF m 36 #[rv a1, iv (1 : Int32), iv (3 : Int32)] [(.int (2 : Int32)), (.ref t), (.int x3)])) rfl rfl (hb hby d5_36) _ ?_
          refine XS.iconst X67.here hx rfl (hb hby d5_37) ?_
          show own_S p e below T67 m 38 #[rv a1, iv (1 : Int32), iv (3 : Int32)] [(.int (1 : Int32)), (.int x2), (.int x3)] _
          refine XS.iadd X67.here hx rfl (hb hby d5_38) rfl ?_
          exact k)
        by_cases hc39_69 : x3 = (x2 + (1 : Int32))
        ·  -- pc 39 yes
          obtain ⟨T71, X71, e71, st71⟩ := getF X67 hx hZ hown (host := "") (Or.inl (hw _ (List.mem_of_getElem? (i := 12) rfl))) Via.refl e67 F_c' (g := (mkF m 17 #[rv a1, iv (1 : Int32), iv (4 : Int32)] [(.ref a1), (.int (4 : Int32))])) rfl rfl (hb hby d5_17)
          have pre72 : ∀ tg, own_S p e below T71 m 52 #[rv a1, iv (1 : Int32), iv (4 : Int32)] [(.int (1 : Int32))] tg → Steps p.tables e below (s₁.setTop (entryFrame m #[(.ref a1)] 3)) tg := fun tg k => pre70 tg (by
            show own_S p e below T67 m 39 #[rv a1, iv (1 : Int32), iv (3 : Int32)] [(.int (x2 + (1 : Int32))), (.int x3)] _
            refine XS.icmpYes X67.here hx rfl (pc0 := 39) (pc' := 45) rfl (hb hby d5_39) rfl (teq hc39_69).1 (by decide) (by decide) ?_
            refine XS.iinc X67.here hx rfl (hb hby d5_45) rfl (l' := #[rv a1, iv (1 : Int32), iv (4 : Int32)]) rfl ?_
            refine XS.goto X67.here hx rfl (pc0 := 48) (pc' := 15) rfl (hb hby d5_48) (by decide) (by decide) ?_
            show own_S p e below T67 m 15 #[rv a1, iv (1 : Int32), iv (4 : Int32)] [] _
            refine XS.iloadN X67.here hx rfl (hb hby d5_15) rfl ?_
            refine XS.aloadN X67.here hx rfl (hb hby d5_16) rfl rfl ?_
            refine st71 _ ?_
            show own_S p e below T71 m 20 #[rv a1, iv (1 : Int32), iv (4 : Int32)] [(.int (4 : Int32)), (.int (4 : Int32))] _
            refine XS.icmpYes X71.here hx rfl (pc0 := 20) (pc' := 51) rfl (hb hby d5_20) rfl (flt (by decide : ¬ ((4 : Int32) < (4 : Int32)))).2.1 (by decide) (by decide) ?_
            refine XS.iloadN X71.here hx rfl (hb hby d5_51) rfl ?_
            exact k)
          obtain ⟨fs, hr, hrun, hended, hW, hsame⟩ := X71.leave (v := some (.int (1 : Int32))) (fun h => by rw [Bd.returns] at h; cases h)
          refine ⟨_, _, pre72 _ ?_, hrun, hended, _, _, rfl, ?_, ⟨_, rfl⟩, hW, hsame.mono (by decide) (by decide)⟩
          · show own_S p e below T71 m 52 #[rv a1, iv (1 : Int32), iv (4 : Int32)] [(.int (1 : Int32))] _
            exact retI X71 hx Bd.returns (hb hby d5_52) hr
          · show QRun Z a1 t k [x0, x1, x2, x3] vs h0 n0 _ T71.heap _
            rw [e71]
            refine ⟨?_, N0, rfl⟩
            simp only [own_runs]
            rw [if_pos hc39_55]
            rw [if_pos hc39_62]
            rw [if_pos hc39_69]
            try rfl
        ·  -- pc 39 no
          obtain ⟨T73, X73, e73, st73⟩ := getF X67 hx hZ hown (host := "") (Or.inl (hw _ (List.mem_of_getElem? (i := 12) rfl))) Via.refl e67 F_c' (g := (mkF m 17 #[rv a1, iv (2 : Int32), iv (4 : Int32)] [(.ref a1), (.int (4 : Int32))])) rfl rfl (hb hby d5_17)
          have pre74 : ∀ tg, own_S p e below T73 m 52 #[rv a1, iv (2 : Int32), iv (4 : Int32)] [(.int (2 : Int32))] tg → Steps p.tables e below (s₁.setTop (entryFrame m #[(.ref a1)] 3)) tg := fun tg k => pre70 tg (by
            show own_S p e below T67 m 39 #[rv a1, iv (1 : Int32), iv (3 : Int32)] [(.int (x2 + (1 : Int32))), (.int x3)] _
            refine XS.icmpNo X67.here hx rfl (hb hby d5_39) rfl (feq hc39_69).1 ?_
            refine XS.iinc X67.here hx rfl (hb hby d5_42) rfl (l' := #[rv a1, iv (2 : Int32), iv (3 : Int32)]) rfl ?_
            refine XS.iinc X67.here hx rfl (hb hby d5_45) rfl (l' := #[rv a1, iv (2 : Int32), iv (4 : Int32)]) rfl ?_
            show own_S p e below T67 m 48 #[rv a1, iv (2 : Int32), iv (4 : Int32)] [] _
            refine XS.goto X67.here hx rfl (pc0 := 48) (pc' := 15) rfl (hb hby d5_48) (by decide) (by decide) ?_
            refine XS.iloadN X67.here hx rfl (hb hby d5_15) rfl ?_
            refine XS.aloadN X67.here hx rfl (hb hby d5_16) rfl rfl ?_
            show own_S p e below T67 m 17 #[rv a1, iv (2 : Int32), iv (4 : Int32)] [(.ref a1), (.int (4 : Int32))] _
            refine st73 _ ?_
            refine XS.icmpYes X73.here hx rfl (pc0 := 20) (pc' := 51) rfl (hb hby d5_20) rfl (flt (by decide : ¬ ((4 : Int32) < (4 : Int32)))).2.1 (by decide) (by decide) ?_
            refine XS.iloadN X73.here hx rfl (hb hby d5_51) rfl ?_
            exact k)
          obtain ⟨fs, hr, hrun, hended, hW, hsame⟩ := X73.leave (v := some (.int (2 : Int32))) (fun h => by rw [Bd.returns] at h; cases h)
          refine ⟨_, _, pre74 _ ?_, hrun, hended, _, _, rfl, ?_, ⟨_, rfl⟩, hW, hsame.mono (by decide) (by decide)⟩
          · show own_S p e below T73 m 52 #[rv a1, iv (2 : Int32), iv (4 : Int32)] [(.int (2 : Int32))] _
            exact retI X73 hx Bd.returns (hb hby d5_52) hr
          · show QRun Z a1 t k [x0, x1, x2, x3] vs h0 n0 _ T73.heap _
            rw [e73]
            refine ⟨?_, N0, rfl⟩
            simp only [own_runs]
            rw [if_pos hc39_55]
            rw [if_pos hc39_62]
            rw [if_neg hc39_69]
            try rfl
      ·  -- pc 39 no
        obtain ⟨T75, X75, e75, st75⟩ := getF X60 hx hZ hown (host := "") (Or.inl (hw _ (List.mem_of_getElem? (i := 12) rfl))) Via.refl e60 F_c' (g := (mkF m 17 #[rv a1, iv (2 : Int32), iv (3 : Int32)] [(.ref a1), (.int (3 : Int32))])) rfl rfl (hb hby d5_17)
        obtain ⟨T76, X76, e76, st76⟩ := getF X75 hx hZ hown (host := "") (Or.inl (hw _ (List.mem_of_getElem? (i := 10) rfl))) Via.refl e75 F_v (g := (mkF m 24 #[rv a1, iv (2 : Int32), iv (3 : Int32)] [(.ref a1)])) rfl rfl (hb hby d5_24)
        obtain ⟨cl77, Ar77, q77, S77, M77, H77, G77⟩ := id V_t
        have hin77 : ¬ ((3 : Int32) < 0 ∨ cl77.slots.size ≤ ((3 : Int32)).toNatClampNeg) := inb_of S77 ⟨by decide, by decide⟩
        have hat77 : cl77.slots[((3 : Int32)).toNatClampNeg]? = some (.int x3) := H77.at hin77 hv3
        obtain ⟨T78, X78, e78, st78⟩ := getF X76 hx hZ hown (host := "") (Or.inl (hw _ (List.mem_of_getElem? (i := 10) rfl))) Via.refl e76 F_v (g := (mkF m 30 #[rv a1, iv (2 : Int32), iv (3 : Int32)] [(.ref a1), (.int x3)])) rfl rfl (hb hby d5_30)
        obtain ⟨cl79, Ar79, q79, S79, M79, H79, G79⟩ := id V_t
        have hin79 : ¬ ((2 : Int32) < 0 ∨ cl79.slots.size ≤ ((2 : Int32)).toNatClampNeg) := inb_of S79 ⟨by decide, by decide⟩
        have hat79 : cl79.slots[((2 : Int32)).toNatClampNeg]? = some (.int x2) := H79.at hin79 hv2
        have pre81 : ∀ tg, own_S p e below T78 m 39 #[rv a1, iv (2 : Int32), iv (3 : Int32)] [(.int (x2 + (1 : Int32))), (.int x3)] tg → Steps p.tables e below (s₁.setTop (entryFrame m #[(.ref a1)] 3)) tg := fun tg k => pre63 tg (by
          show own_S p e below T60 m 39 #[rv a1, iv (1 : Int32), iv (2 : Int32)] [(.int (x1 + (1 : Int32))), (.int x2)] _
          refine XS.icmpNo X60.here hx rfl (hb hby d5_39) rfl (feq hc39_62).1 ?_
          refine XS.iinc X60.here hx rfl (hb hby d5_42) rfl (l' := #[rv a1, iv (2 : Int32), iv (2 : Int32)]) rfl ?_
          refine XS.iinc X60.here hx rfl (hb hby d5_45) rfl (l' := #[rv a1, iv (2 : Int32), iv (3 : Int32)]) rfl ?_
          show own_S p e below T60 m 48 #[rv a1, iv (2 : Int32), iv (3 : Int32)] [] _
          refine XS.goto X60.here hx rfl (pc0 := 48) (pc' := 15) rfl (hb hby d5_48) (by decide) (by decide) ?_
          refine XS.iloadN X60.here hx rfl (hb hby d5_15) rfl ?_
          refine XS.aloadN X60.here hx rfl (hb hby d5_16) rfl rfl ?_
          show own_S p e below T60 m 17 #[rv a1, iv (2 : Int32), iv (3 : Int32)] [(.ref a1), (.int (3 : Int32))] _
          refine st75 _ ?_
          refine XS.icmpNo X75.here hx rfl (hb hby d5_20) rfl (tlt (by decide : (3 : Int32) < (4 : Int32))).2.1 ?_
          refine XS.aloadN X75.here hx rfl (hb hby d5_23) rfl rfl ?_
          show own_S p e below T75 m 24 #[rv a1, iv (2 : Int32), iv (3 : Int32)] [(.ref a1)] _
          refine st76 _ ?_
          refine XS.iloadN X76.here hx rfl (hb hby d5_27) rfl ?_
          refine X76.caload hx (j := (3 : Int32)) (v := (.int x3)) (by rw [e76]; exact Ar77.1) (State.isArrayOf_alike hZ.alike Ar77.2.1) Ar77.2.2 hin77 hat77 (g := (mkF m 28 #[rv a1, iv (2 : Int32), iv (3 : Int32)] [(.int (3 : Int32)), (.ref t)])) rfl rfl (hb hby d5_28) _ ?_
          show own_S p e below T76 m 29 #[rv a1, iv (2 : Int32), iv (3 : Int32)] [(.int x3)] _
          refine XS.aloadN X76.here hx rfl (hb hby d5_29) rfl rfl ?_
          refine st78 _ ?_
          refine XS.iloadN X78.here hx rfl (hb hby d5_33) rfl ?_
          show own_S p e below T78 m 34 #[rv a1, iv (2 : Int32), iv (3 : Int32)] [(.int (3 : Int32)), (.ref t), (.int x3)] _
          refine XS.iconst X78.here hx rfl (hb hby d5_34) ?_
          refine XS.isub X78.here hx rfl (hb hby d5_35) rfl ?_
          refine X78.caload hx (j := (2 : Int32)) (v := (.int x2)) (by rw [e78]; exact Ar79.1) (State.isArrayOf_alike hZ.alike Ar79.2.1) Ar79.2.2 hin79 hat79 (g := (mkF m 36 #[rv a1, iv (2 : Int32), iv (3 : Int32)] [(.int (2 : Int32)), (.ref t), (.int x3)])) rfl rfl (hb hby d5_36) _ ?_
          show own_S p e below T78 m 37 #[rv a1, iv (2 : Int32), iv (3 : Int32)] [(.int x2), (.int x3)] _
          refine XS.iconst X78.here hx rfl (hb hby d5_37) ?_
          refine XS.iadd X78.here hx rfl (hb hby d5_38) rfl ?_
          exact k)
        by_cases hc39_80 : x3 = (x2 + (1 : Int32))
        ·  -- pc 39 yes
          obtain ⟨T82, X82, e82, st82⟩ := getF X78 hx hZ hown (host := "") (Or.inl (hw _ (List.mem_of_getElem? (i := 12) rfl))) Via.refl e78 F_c' (g := (mkF m 17 #[rv a1, iv (2 : Int32), iv (4 : Int32)] [(.ref a1), (.int (4 : Int32))])) rfl rfl (hb hby d5_17)
          have pre83 : ∀ tg, own_S p e below T82 m 52 #[rv a1, iv (2 : Int32), iv (4 : Int32)] [(.int (2 : Int32))] tg → Steps p.tables e below (s₁.setTop (entryFrame m #[(.ref a1)] 3)) tg := fun tg k => pre81 tg (by
            show own_S p e below T78 m 39 #[rv a1, iv (2 : Int32), iv (3 : Int32)] [(.int (x2 + (1 : Int32))), (.int x3)] _
            refine XS.icmpYes X78.here hx rfl (pc0 := 39) (pc' := 45) rfl (hb hby d5_39) rfl (teq hc39_80).1 (by decide) (by decide) ?_
            refine XS.iinc X78.here hx rfl (hb hby d5_45) rfl (l' := #[rv a1, iv (2 : Int32), iv (4 : Int32)]) rfl ?_
            refine XS.goto X78.here hx rfl (pc0 := 48) (pc' := 15) rfl (hb hby d5_48) (by decide) (by decide) ?_
            show own_S p e below T78 m 15 #[rv a1, iv (2 : Int32), iv (4 : Int32)] [] _
            refine XS.iloadN X78.here hx rfl (hb hby d5_15) rfl ?_
            refine XS.aloadN X78.here hx rfl (hb hby d5_16) rfl rfl ?_
            refine st82 _ ?_
            show own_S p e below T82 m 20 #[rv a1, iv (2 : Int32), iv (4 : Int32)] [(.int (4 : Int32)), (.int (4 : Int32))] _
            refine XS.icmpYes X82.here hx rfl (pc0 := 20) (pc' := 51) rfl (hb hby d5_20) rfl (flt (by decide : ¬ ((4 : Int32) < (4 : Int32)))).2.1 (by decide) (by decide) ?_
            refine XS.iloadN X82.here hx rfl (hb hby d5_51) rfl ?_
            exact k)
          obtain ⟨fs, hr, hrun, hended, hW, hsame⟩ := X82.leave (v := some (.int (2 : Int32))) (fun h => by rw [Bd.returns] at h; cases h)
          refine ⟨_, _, pre83 _ ?_, hrun, hended, _, _, rfl, ?_, ⟨_, rfl⟩, hW, hsame.mono (by decide) (by decide)⟩
          · show own_S p e below T82 m 52 #[rv a1, iv (2 : Int32), iv (4 : Int32)] [(.int (2 : Int32))] _
            exact retI X82 hx Bd.returns (hb hby d5_52) hr
          · show QRun Z a1 t k [x0, x1, x2, x3] vs h0 n0 _ T82.heap _
            rw [e82]
            refine ⟨?_, N0, rfl⟩
            simp only [own_runs]
            rw [if_pos hc39_55]
            rw [if_neg hc39_62]
            rw [if_pos hc39_80]
            try rfl
        ·  -- pc 39 no
          obtain ⟨T84, X84, e84, st84⟩ := getF X78 hx hZ hown (host := "") (Or.inl (hw _ (List.mem_of_getElem? (i := 12) rfl))) Via.refl e78 F_c' (g := (mkF m 17 #[rv a1, iv (3 : Int32), iv (4 : Int32)] [(.ref a1), (.int (4 : Int32))])) rfl rfl (hb hby d5_17)
          have pre85 : ∀ tg, own_S p e below T84 m 52 #[rv a1, iv (3 : Int32), iv (4 : Int32)] [(.int (3 : Int32))] tg → Steps p.tables e below (s₁.setTop (entryFrame m #[(.ref a1)] 3)) tg := fun tg k => pre81 tg (by
            show own_S p e below T78 m 39 #[rv a1, iv (2 : Int32), iv (3 : Int32)] [(.int (x2 + (1 : Int32))), (.int x3)] _
            refine XS.icmpNo X78.here hx rfl (hb hby d5_39) rfl (feq hc39_80).1 ?_
            refine XS.iinc X78.here hx rfl (hb hby d5_42) rfl (l' := #[rv a1, iv (3 : Int32), iv (3 : Int32)]) rfl ?_
            refine XS.iinc X78.here hx rfl (hb hby d5_45) rfl (l' := #[rv a1, iv (3 : Int32), iv (4 : Int32)]) rfl ?_
            show own_S p e below T78 m 48 #[rv a1, iv (3 : Int32), iv (4 : Int32)] [] _
            refine XS.goto X78.here hx rfl (pc0 := 48) (pc' := 15) rfl (hb hby d5_48) (by decide) (by decide) ?_
            refine XS.iloadN X78.here hx rfl (hb hby d5_15) rfl ?_
            refine XS.aloadN X78.here hx rfl (hb hby d5_16) rfl rfl ?_
            show own_S p e below T78 m 17 #[rv a1, iv (3 : Int32), iv (4 : Int32)] [(.ref a1), (.int (4 : Int32))] _
            refine st84 _ ?_
            refine XS.icmpYes X84.here hx rfl (pc0 := 20) (pc' := 51) rfl (hb hby d5_20) rfl (flt (by decide : ¬ ((4 : Int32) < (4 : Int32)))).2.1 (by decide) (by decide) ?_
            refine XS.iloadN X84.here hx rfl (hb hby d5_51) rfl ?_
            exact k)
          obtain ⟨fs, hr, hrun, hended, hW, hsame⟩ := X84.leave (v := some (.int (3 : Int32))) (fun h => by rw [Bd.returns] at h; cases h)
          refine ⟨_, _, pre85 _ ?_, hrun, hended, _, _, rfl, ?_, ⟨_, rfl⟩, hW, hsame.mono (by decide) (by decide)⟩
          · show own_S p e below T84 m 52 #[rv a1, iv (3 : Int32), iv (4 : Int32)] [(.int (3 : Int32))] _
            exact retI X84 hx Bd.returns (hb hby d5_52) hr
          · show QRun Z a1 t k [x0, x1, x2, x3] vs h0 n0 _ T84.heap _
            rw [e84]
            refine ⟨?_, N0, rfl⟩
            simp only [own_runs]
            rw [if_pos hc39_55]
            rw [if_neg hc39_62]
            rw [if_neg hc39_80]
            try rfl
    ·  -- pc 39 no
      obtain ⟨T86, X86, e86, st86⟩ := getF X53 hx hZ hown (host := "") (Or.inl (hw _ (List.mem_of_getElem? (i := 12) rfl))) Via.refl e53 F_c' (g := (mkF m 17 #[rv a1, iv (2 : Int32), iv (2 : Int32)] [(.ref a1), (.int (2 : Int32))])) rfl rfl (hb hby d5_17)
      obtain ⟨T87, X87, e87, st87⟩ := getF X86 hx hZ hown (host := "") (Or.inl (hw _ (List.mem_of_getElem? (i := 10) rfl))) Via.refl e86 F_v (g := (mkF m 24 #[rv a1, iv (2 : Int32), iv (2 : Int32)] [(.ref a1)])) rfl rfl (hb hby d5_24)
      obtain ⟨cl88, Ar88, q88, S88, M88, H88, G88⟩ := id V_t
      have hin88 : ¬ ((2 : Int32) < 0 ∨ cl88.slots.size ≤ ((2 : Int32)).toNatClampNeg) := inb_of S88 ⟨by decide, by decide⟩
      have hat88 : cl88.slots[((2 : Int32)).toNatClampNeg]? = some (.int x2) := H88.at hin88 hv2
      obtain ⟨T89, X89, e89, st89⟩ := getF X87 hx hZ hown (host := "") (Or.inl (hw _ (List.mem_of_getElem? (i := 10) rfl))) Via.refl e87 F_v (g := (mkF m 30 #[rv a1, iv (2 : Int32), iv (2 : Int32)] [(.ref a1), (.int x2)])) rfl rfl (hb hby d5_30)
      obtain ⟨cl90, Ar90, q90, S90, M90, H90, G90⟩ := id V_t
      have hin90 : ¬ ((1 : Int32) < 0 ∨ cl90.slots.size ≤ ((1 : Int32)).toNatClampNeg) := inb_of S90 ⟨by decide, by decide⟩
      have hat90 : cl90.slots[((1 : Int32)).toNatClampNeg]? = some (.int x1) := H90.at hin90 hv1
      have pre92 : ∀ tg, own_S p e below T89 m 39 #[rv a1, iv (2 : Int32), iv (2 : Int32)] [(.int (x1 + (1 : Int32))), (.int x2)] tg → Steps p.tables e below (s₁.setTop (entryFrame m #[(.ref a1)] 3)) tg := fun tg k => pre56 tg (by
        show own_S p e below T53 m 39 #[rv a1, iv (1 : Int32), iv (1 : Int32)] [(.int (x0 + (1 : Int32))), (.int x1)] _
        refine XS.icmpNo X53.here hx rfl (hb hby d5_39) rfl (feq hc39_55).1 ?_
        refine XS.iinc X53.here hx rfl (hb hby d5_42) rfl (l' := #[rv a1, iv (2 : Int32), iv (1 : Int32)]) rfl ?_
        refine XS.iinc X53.here hx rfl (hb hby d5_45) rfl (l' := #[rv a1, iv (2 : Int32), iv (2 : Int32)]) rfl ?_
        show own_S p e below T53 m 48 #[rv a1, iv (2 : Int32), iv (2 : Int32)] [] _
        refine XS.goto X53.here hx rfl (pc0 := 48) (pc' := 15) rfl (hb hby d5_48) (by decide) (by decide) ?_
        refine XS.iloadN X53.here hx rfl (hb hby d5_15) rfl ?_
        refine XS.aloadN X53.here hx rfl (hb hby d5_16) rfl rfl ?_
        show own_S p e below T53 m 17 #[rv a1, iv (2 : Int32), iv (2 : Int32)] [(.ref a1), (.int (2 : Int32))] _
        refine st86 _ ?_
        refine XS.icmpNo X86.here hx rfl (hb hby d5_20) rfl (tlt (by decide : (2 : Int32) < (4 : Int32))).2.1 ?_
        refine XS.aloadN X86.here hx rfl (hb hby d5_23) rfl rfl ?_
        show own_S p e below T86 m 24 #[rv a1, iv (2 : Int32), iv (2 : Int32)] [(.ref a1)] _
        refine st87 _ ?_
        refine XS.iloadN X87.here hx rfl (hb hby d5_27) rfl ?_
        refine X87.caload hx (j := (2 : Int32)) (v := (.int x2)) (by rw [e87]; exact Ar88.1) (State.isArrayOf_alike hZ.alike Ar88.2.1) Ar88.2.2 hin88 hat88 (g := (mkF m 28 #[rv a1, iv (2 : Int32), iv (2 : Int32)] [(.int (2 : Int32)), (.ref t)])) rfl rfl (hb hby d5_28) _ ?_
        show own_S p e below T87 m 29 #[rv a1, iv (2 : Int32), iv (2 : Int32)] [(.int x2)] _
        refine XS.aloadN X87.here hx rfl (hb hby d5_29) rfl rfl ?_
        refine st89 _ ?_
        refine XS.iloadN X89.here hx rfl (hb hby d5_33) rfl ?_
        show own_S p e below T89 m 34 #[rv a1, iv (2 : Int32), iv (2 : Int32)] [(.int (2 : Int32)), (.ref t), (.int x2)] _
        refine XS.iconst X89.here hx rfl (hb hby d5_34) ?_
        refine XS.isub X89.here hx rfl (hb hby d5_35) rfl ?_
        refine X89.caload hx (j := (1 : Int32)) (v := (.int x1)) (by rw [e89]; exact Ar90.1) (State.isArrayOf_alike hZ.alike Ar90.2.1) Ar90.2.2 hin90 hat90 (g := (mkF m 36 #[rv a1, iv (2 : Int32), iv (2 : Int32)] [(.int (1 : Int32)), (.ref t), (.int x2)])) rfl rfl (hb hby d5_36) _ ?_
        show own_S p e below T89 m 37 #[rv a1, iv (2 : Int32), iv (2 : Int32)] [(.int x1), (.int x2)] _
        refine XS.iconst X89.here hx rfl (hb hby d5_37) ?_
        refine XS.iadd X89.here hx rfl (hb hby d5_38) rfl ?_
        exact k)
      by_cases hc39_91 : x2 = (x1 + (1 : Int32))
      ·  -- pc 39 yes
        obtain ⟨T93, X93, e93, st93⟩ := getF X89 hx hZ hown (host := "") (Or.inl (hw _ (List.mem_of_getElem? (i := 12) rfl))) Via.refl e89 F_c' (g := (mkF m 17 #[rv a1, iv (2 : Int32), iv (3 : Int32)] [(.ref a1), (.int (3 : Int32))])) rfl rfl (hb hby d5_17)
        obtain ⟨T94, X94, e94, st94⟩ := getF X93 hx hZ hown (host := "") (Or.inl (hw _ (List.mem_of_getElem? (i := 10) rfl))) Via.refl e93 F_v (g := (mkF m 24 #[rv a1, iv (2 : Int32), iv (3 : Int32)] [(.ref a1)])) rfl rfl (hb hby d5_24)
        obtain ⟨cl95, Ar95, q95, S95, M95, H95, G95⟩ := id V_t
        have hin95 : ¬ ((3 : Int32) < 0 ∨ cl95.slots.size ≤ ((3 : Int32)).toNatClampNeg) := inb_of S95 ⟨by decide, by decide⟩
        have hat95 : cl95.slots[((3 : Int32)).toNatClampNeg]? = some (.int x3) := H95.at hin95 hv3
        obtain ⟨T96, X96, e96, st96⟩ := getF X94 hx hZ hown (host := "") (Or.inl (hw _ (List.mem_of_getElem? (i := 10) rfl))) Via.refl e94 F_v (g := (mkF m 30 #[rv a1, iv (2 : Int32), iv (3 : Int32)] [(.ref a1), (.int x3)])) rfl rfl (hb hby d5_30)
        obtain ⟨cl97, Ar97, q97, S97, M97, H97, G97⟩ := id V_t
        have hin97 : ¬ ((2 : Int32) < 0 ∨ cl97.slots.size ≤ ((2 : Int32)).toNatClampNeg) := inb_of S97 ⟨by decide, by decide⟩
        have hat97 : cl97.slots[((2 : Int32)).toNatClampNeg]? = some (.int x2) := H97.at hin97 hv2
        have pre99 : ∀ tg, own_S p e below T96 m 39 #[rv a1, iv (2 : Int32), iv (3 : Int32)] [(.int (x2 + (1 : Int32))), (.int x3)] tg → Steps p.tables e below (s₁.setTop (entryFrame m #[(.ref a1)] 3)) tg := fun tg k => pre92 tg (by
          show own_S p e below T89 m 39 #[rv a1, iv (2 : Int32), iv (2 : Int32)] [(.int (x1 + (1 : Int32))), (.int x2)] _
          refine XS.icmpYes X89.here hx rfl (pc0 := 39) (pc' := 45) rfl (hb hby d5_39) rfl (teq hc39_91).1 (by decide) (by decide) ?_
          refine XS.iinc X89.here hx rfl (hb hby d5_45) rfl (l' := #[rv a1, iv (2 : Int32), iv (3 : Int32)]) rfl ?_
          refine XS.goto X89.here hx rfl (pc0 := 48) (pc' := 15) rfl (hb hby d5_48) (by decide) (by decide) ?_
          show own_S p e below T89 m 15 #[rv a1, iv (2 : Int32), iv (3 : Int32)] [] _
          refine XS.iloadN X89.here hx rfl (hb hby d5_15) rfl ?_
          refine XS.aloadN X89.here hx rfl (hb hby d5_16) rfl rfl ?_
          refine st93 _ ?_
          show own_S p e below T93 m 20 #[rv a1, iv (2 : Int32), iv (3 : Int32)] [(.int (4 : Int32)), (.int (3 : Int32))] _
          refine XS.icmpNo X93.here hx rfl (hb hby d5_20) rfl (tlt (by decide : (3 : Int32) < (4 : Int32))).2.1 ?_
          refine XS.aloadN X93.here hx rfl (hb hby d5_23) rfl rfl ?_
          refine st94 _ ?_
          show own_S p e below T94 m 27 #[rv a1, iv (2 : Int32), iv (3 : Int32)] [(.ref t)] _
          refine XS.iloadN X94.here hx rfl (hb hby d5_27) rfl ?_
          refine X94.caload hx (j := (3 : Int32)) (v := (.int x3)) (by rw [e94]; exact Ar95.1) (State.isArrayOf_alike hZ.alike Ar95.2.1) Ar95.2.2 hin95 hat95 (g := (mkF m 28 #[rv a1, iv (2 : Int32), iv (3 : Int32)] [(.int (3 : Int32)), (.ref t)])) rfl rfl (hb hby d5_28) _ ?_
          refine XS.aloadN X94.here hx rfl (hb hby d5_29) rfl rfl ?_
          show own_S p e below T94 m 30 #[rv a1, iv (2 : Int32), iv (3 : Int32)] [(.ref a1), (.int x3)] _
          refine st96 _ ?_
          refine XS.iloadN X96.here hx rfl (hb hby d5_33) rfl ?_
          refine XS.iconst X96.here hx rfl (hb hby d5_34) ?_
          show own_S p e below T96 m 35 #[rv a1, iv (2 : Int32), iv (3 : Int32)] [(.int (1 : Int32)), (.int (3 : Int32)), (.ref t), (.int x3)] _
          refine XS.isub X96.here hx rfl (hb hby d5_35) rfl ?_
          refine X96.caload hx (j := (2 : Int32)) (v := (.int x2)) (by rw [e96]; exact Ar97.1) (State.isArrayOf_alike hZ.alike Ar97.2.1) Ar97.2.2 hin97 hat97 (g := (mkF m 36 #[rv a1, iv (2 : Int32), iv (3 : Int32)] [(.int (2 : Int32)), (.ref t), (.int x3)])) rfl rfl (hb hby d5_36) _ ?_
          refine XS.iconst X96.here hx rfl (hb hby d5_37) ?_
          show own_S p e below T96 m 38 #[rv a1, iv (2 : Int32), iv (3 : Int32)] [(.int (1 : Int32)), (.int x2), (.int x3)] _
          refine XS.iadd X96.here hx rfl (hb hby d5_38) rfl ?_
          exact k)
        by_cases hc39_98 : x3 = (x2 + (1 : Int32))
        ·  -- pc 39 yes
          obtain ⟨T100, X100, e100, st100⟩ := getF X96 hx hZ hown (host := "") (Or.inl (hw _ (List.mem_of_getElem? (i := 12) rfl))) Via.refl e96 F_c' (g := (mkF m 17 #[rv a1, iv (2 : Int32), iv (4 : Int32)] [(.ref a1), (.int (4 : Int32))])) rfl rfl (hb hby d5_17)
          have pre101 : ∀ tg, own_S p e below T100 m 52 #[rv a1, iv (2 : Int32), iv (4 : Int32)] [(.int (2 : Int32))] tg → Steps p.tables e below (s₁.setTop (entryFrame m #[(.ref a1)] 3)) tg := fun tg k => pre99 tg (by
            show own_S p e below T96 m 39 #[rv a1, iv (2 : Int32), iv (3 : Int32)] [(.int (x2 + (1 : Int32))), (.int x3)] _
            refine XS.icmpYes X96.here hx rfl (pc0 := 39) (pc' := 45) rfl (hb hby d5_39) rfl (teq hc39_98).1 (by decide) (by decide) ?_
            refine XS.iinc X96.here hx rfl (hb hby d5_45) rfl (l' := #[rv a1, iv (2 : Int32), iv (4 : Int32)]) rfl ?_
            refine XS.goto X96.here hx rfl (pc0 := 48) (pc' := 15) rfl (hb hby d5_48) (by decide) (by decide) ?_
            show own_S p e below T96 m 15 #[rv a1, iv (2 : Int32), iv (4 : Int32)] [] _
            refine XS.iloadN X96.here hx rfl (hb hby d5_15) rfl ?_
            refine XS.aloadN X96.here hx rfl (hb hby d5_16) rfl rfl ?_
            refine st100 _ ?_
            show own_S p e below T100 m 20 #[rv a1, iv (2 : Int32), iv (4 : Int32)] [(.int (4 : Int32)), (.int (4 : Int32))] _
            refine XS.icmpYes X100.here hx rfl (pc0 := 20) (pc' := 51) rfl (hb hby d5_20) rfl (flt (by decide : ¬ ((4 : Int32) < (4 : Int32)))).2.1 (by decide) (by decide) ?_
            refine XS.iloadN X100.here hx rfl (hb hby d5_51) rfl ?_
            exact k)
          obtain ⟨fs, hr, hrun, hended, hW, hsame⟩ := X100.leave (v := some (.int (2 : Int32))) (fun h => by rw [Bd.returns] at h; cases h)
          refine ⟨_, _, pre101 _ ?_, hrun, hended, _, _, rfl, ?_, ⟨_, rfl⟩, hW, hsame.mono (by decide) (by decide)⟩
          · show own_S p e below T100 m 52 #[rv a1, iv (2 : Int32), iv (4 : Int32)] [(.int (2 : Int32))] _
            exact retI X100 hx Bd.returns (hb hby d5_52) hr
          · show QRun Z a1 t k [x0, x1, x2, x3] vs h0 n0 _ T100.heap _
            rw [e100]
            refine ⟨?_, N0, rfl⟩
            simp only [own_runs]
            rw [if_neg hc39_55]
            rw [if_pos hc39_91]
            rw [if_pos hc39_98]
            try rfl
        ·  -- pc 39 no
          obtain ⟨T102, X102, e102, st102⟩ := getF X96 hx hZ hown (host := "") (Or.inl (hw _ (List.mem_of_getElem? (i := 12) rfl))) Via.refl e96 F_c' (g := (mkF m 17 #[rv a1, iv (3 : Int32), iv (4 : Int32)] [(.ref a1), (.int (4 : Int32))])) rfl rfl (hb hby d5_17)
          have pre103 : ∀ tg, own_S p e below T102 m 52 #[rv a1, iv (3 : Int32), iv (4 : Int32)] [(.int (3 : Int32))] tg → Steps p.tables e below (s₁.setTop (entryFrame m #[(.ref a1)] 3)) tg := fun tg k => pre99 tg (by
            show own_S p e below T96 m 39 #[rv a1, iv (2 : Int32), iv (3 : Int32)] [(.int (x2 + (1 : Int32))), (.int x3)] _
            refine XS.icmpNo X96.here hx rfl (hb hby d5_39) rfl (feq hc39_98).1 ?_
            refine XS.iinc X96.here hx rfl (hb hby d5_42) rfl (l' := #[rv a1, iv (3 : Int32), iv (3 : Int32)]) rfl ?_
            refine XS.iinc X96.here hx rfl (hb hby d5_45) rfl (l' := #[rv a1, iv (3 : Int32), iv (4 : Int32)]) rfl ?_
            show own_S p e below T96 m 48 #[rv a1, iv (3 : Int32), iv (4 : Int32)] [] _
            refine XS.goto X96.here hx rfl (pc0 := 48) (pc' := 15) rfl (hb hby d5_48) (by decide) (by decide) ?_
            refine XS.iloadN X96.here hx rfl (hb hby d5_15) rfl ?_
            refine XS.aloadN X96.here hx rfl (hb hby d5_16) rfl rfl ?_
            show own_S p e below T96 m 17 #[rv a1, iv (3 : Int32), iv (4 : Int32)] [(.ref a1), (.int (4 : Int32))] _
            refine st102 _ ?_
            refine XS.icmpYes X102.here hx rfl (pc0 := 20) (pc' := 51) rfl (hb hby d5_20) rfl (flt (by decide : ¬ ((4 : Int32) < (4 : Int32)))).2.1 (by decide) (by decide) ?_
            refine XS.iloadN X102.here hx rfl (hb hby d5_51) rfl ?_
            exact k)
          obtain ⟨fs, hr, hrun, hended, hW, hsame⟩ := X102.leave (v := some (.int (3 : Int32))) (fun h => by rw [Bd.returns] at h; cases h)
          refine ⟨_, _, pre103 _ ?_, hrun, hended, _, _, rfl, ?_, ⟨_, rfl⟩, hW, hsame.mono (by decide) (by decide)⟩
          · show own_S p e below T102 m 52 #[rv a1, iv (3 : Int32), iv (4 : Int32)] [(.int (3 : Int32))] _
            exact retI X102 hx Bd.returns (hb hby d5_52) hr
          · show QRun Z a1 t k [x0, x1, x2, x3] vs h0 n0 _ T102.heap _
            rw [e102]
            refine ⟨?_, N0, rfl⟩
            simp only [own_runs]
            rw [if_neg hc39_55]
            rw [if_pos hc39_91]
            rw [if_neg hc39_98]
            try rfl
      ·  -- pc 39 no
        obtain ⟨T104, X104, e104, st104⟩ := getF X89 hx hZ hown (host := "") (Or.inl (hw _ (List.mem_of_getElem? (i := 12) rfl))) Via.refl e89 F_c' (g := (mkF m 17 #[rv a1, iv (3 : Int32), iv (3 : Int32)] [(.ref a1), (.int (3 : Int32))])) rfl rfl (hb hby d5_17)
        obtain ⟨T105, X105, e105, st105⟩ := getF X104 hx hZ hown (host := "") (Or.inl (hw _ (List.mem_of_getElem? (i := 10) rfl))) Via.refl e104 F_v (g := (mkF m 24 #[rv a1, iv (3 : Int32), iv (3 : Int32)] [(.ref a1)])) rfl rfl (hb hby d5_24)
        obtain ⟨cl106, Ar106, q106, S106, M106, H106, G106⟩ := id V_t
        have hin106 : ¬ ((3 : Int32) < 0 ∨ cl106.slots.size ≤ ((3 : Int32)).toNatClampNeg) := inb_of S106 ⟨by decide, by decide⟩
        have hat106 : cl106.slots[((3 : Int32)).toNatClampNeg]? = some (.int x3) := H106.at hin106 hv3
        obtain ⟨T107, X107, e107, st107⟩ := getF X105 hx hZ hown (host := "") (Or.inl (hw _ (List.mem_of_getElem? (i := 10) rfl))) Via.refl e105 F_v (g := (mkF m 30 #[rv a1, iv (3 : Int32), iv (3 : Int32)] [(.ref a1), (.int x3)])) rfl rfl (hb hby d5_30)
        obtain ⟨cl108, Ar108, q108, S108, M108, H108, G108⟩ := id V_t
        have hin108 : ¬ ((2 : Int32) < 0 ∨ cl108.slots.size ≤ ((2 : Int32)).toNatClampNeg) := inb_of S108 ⟨by decide, by decide⟩
        have hat108 : cl108.slots[((2 : Int32)).toNatClampNeg]? = some (.int x2) := H108.at hin108 hv2
        have pre110 : ∀ tg, own_S p e below T107 m 39 #[rv a1, iv (3 : Int32), iv (3 : Int32)] [(.int (x2 + (1 : Int32))), (.int x3)] tg → Steps p.tables e below (s₁.setTop (entryFrame m #[(.ref a1)] 3)) tg := fun tg k => pre92 tg (by
          show own_S p e below T89 m 39 #[rv a1, iv (2 : Int32), iv (2 : Int32)] [(.int (x1 + (1 : Int32))), (.int x2)] _
          refine XS.icmpNo X89.here hx rfl (hb hby d5_39) rfl (feq hc39_91).1 ?_
          refine XS.iinc X89.here hx rfl (hb hby d5_42) rfl (l' := #[rv a1, iv (3 : Int32), iv (2 : Int32)]) rfl ?_
          refine XS.iinc X89.here hx rfl (hb hby d5_45) rfl (l' := #[rv a1, iv (3 : Int32), iv (3 : Int32)]) rfl ?_
          show own_S p e below T89 m 48 #[rv a1, iv (3 : Int32), iv (3 : Int32)] [] _
          refine XS.goto X89.here hx rfl (pc0 := 48) (pc' := 15) rfl (hb hby d5_48) (by decide) (by decide) ?_
          refine XS.iloadN X89.here hx rfl (hb hby d5_15) rfl ?_
          refine XS.aloadN X89.here hx rfl (hb hby d5_16) rfl rfl ?_
          show own_S p e below T89 m 17 #[rv a1, iv (3 : Int32), iv (3 : Int32)] [(.ref a1), (.int (3 : Int32))] _
          refine st104 _ ?_
          refine XS.icmpNo X104.here hx rfl (hb hby d5_20) rfl (tlt (by decide : (3 : Int32) < (4 : Int32))).2.1 ?_
          refine XS.aloadN X104.here hx rfl (hb hby d5_23) rfl rfl ?_
          show own_S p e below T104 m 24 #[rv a1, iv (3 : Int32), iv (3 : Int32)] [(.ref a1)] _
          refine st105 _ ?_
          refine XS.iloadN X105.here hx rfl (hb hby d5_27) rfl ?_
          refine X105.caload hx (j := (3 : Int32)) (v := (.int x3)) (by rw [e105]; exact Ar106.1) (State.isArrayOf_alike hZ.alike Ar106.2.1) Ar106.2.2 hin106 hat106 (g := (mkF m 28 #[rv a1, iv (3 : Int32), iv (3 : Int32)] [(.int (3 : Int32)), (.ref t)])) rfl rfl (hb hby d5_28) _ ?_
          show own_S p e below T105 m 29 #[rv a1, iv (3 : Int32), iv (3 : Int32)] [(.int x3)] _
          refine XS.aloadN X105.here hx rfl (hb hby d5_29) rfl rfl ?_
          refine st107 _ ?_
          refine XS.iloadN X107.here hx rfl (hb hby d5_33) rfl ?_
          show own_S p e below T107 m 34 #[rv a1, iv (3 : Int32), iv (3 : Int32)] [(.int (3 : Int32)), (.ref t), (.int x3)] _
          refine XS.iconst X107.here hx rfl (hb hby d5_34) ?_
          refine XS.isub X107.here hx rfl (hb hby d5_35) rfl ?_
          refine X107.caload hx (j := (2 : Int32)) (v := (.int x2)) (by rw [e107]; exact Ar108.1) (State.isArrayOf_alike hZ.alike Ar108.2.1) Ar108.2.2 hin108 hat108 (g := (mkF m 36 #[rv a1, iv (3 : Int32), iv (3 : Int32)] [(.int (2 : Int32)), (.ref t), (.int x3)])) rfl rfl (hb hby d5_36) _ ?_
          show own_S p e below T107 m 37 #[rv a1, iv (3 : Int32), iv (3 : Int32)] [(.int x2), (.int x3)] _
          refine XS.iconst X107.here hx rfl (hb hby d5_37) ?_
          refine XS.iadd X107.here hx rfl (hb hby d5_38) rfl ?_
          exact k)
        by_cases hc39_109 : x3 = (x2 + (1 : Int32))
        ·  -- pc 39 yes
          obtain ⟨T111, X111, e111, st111⟩ := getF X107 hx hZ hown (host := "") (Or.inl (hw _ (List.mem_of_getElem? (i := 12) rfl))) Via.refl e107 F_c' (g := (mkF m 17 #[rv a1, iv (3 : Int32), iv (4 : Int32)] [(.ref a1), (.int (4 : Int32))])) rfl rfl (hb hby d5_17)
          have pre112 : ∀ tg, own_S p e below T111 m 52 #[rv a1, iv (3 : Int32), iv (4 : Int32)] [(.int (3 : Int32))] tg → Steps p.tables e below (s₁.setTop (entryFrame m #[(.ref a1)] 3)) tg := fun tg k => pre110 tg (by
            show own_S p e below T107 m 39 #[rv a1, iv (3 : Int32), iv (3 : Int32)] [(.int (x2 + (1 : Int32))), (.int x3)] _
            refine XS.icmpYes X107.here hx rfl (pc0 := 39) (pc' := 45) rfl (hb hby d5_39) rfl (teq hc39_109).1 (by decide) (by decide) ?_
            refine XS.iinc X107.here hx rfl (hb hby d5_45) rfl (l' := #[rv a1, iv (3 : Int32), iv (4 : Int32)]) rfl ?_
            refine XS.goto X107.here hx rfl (pc0 := 48) (pc' := 15) rfl (hb hby d5_48) (by decide) (by decide) ?_
            show own_S p e below T107 m 15 #[rv a1, iv (3 : Int32), iv (4 : Int32)] [] _
            refine XS.iloadN X107.here hx rfl (hb hby d5_15) rfl ?_
            refine XS.aloadN X107.here hx rfl (hb hby d5_16) rfl rfl ?_
            refine st111 _ ?_
            show own_S p e below T111 m 20 #[rv a1, iv (3 : Int32), iv (4 : Int32)] [(.int (4 : Int32)), (.int (4 : Int32))] _
            refine XS.icmpYes X111.here hx rfl (pc0 := 20) (pc' := 51) rfl (hb hby d5_20) rfl (flt (by decide : ¬ ((4 : Int32) < (4 : Int32)))).2.1 (by decide) (by decide) ?_
            refine XS.iloadN X111.here hx rfl (hb hby d5_51) rfl ?_
            exact k)
          obtain ⟨fs, hr, hrun, hended, hW, hsame⟩ := X111.leave (v := some (.int (3 : Int32))) (fun h => by rw [Bd.returns] at h; cases h)
          refine ⟨_, _, pre112 _ ?_, hrun, hended, _, _, rfl, ?_, ⟨_, rfl⟩, hW, hsame.mono (by decide) (by decide)⟩
          · show own_S p e below T111 m 52 #[rv a1, iv (3 : Int32), iv (4 : Int32)] [(.int (3 : Int32))] _
            exact retI X111 hx Bd.returns (hb hby d5_52) hr
          · show QRun Z a1 t k [x0, x1, x2, x3] vs h0 n0 _ T111.heap _
            rw [e111]
            refine ⟨?_, N0, rfl⟩
            simp only [own_runs]
            rw [if_neg hc39_55]
            rw [if_neg hc39_91]
            rw [if_pos hc39_109]
            try rfl
        ·  -- pc 39 no
          obtain ⟨T113, X113, e113, st113⟩ := getF X107 hx hZ hown (host := "") (Or.inl (hw _ (List.mem_of_getElem? (i := 12) rfl))) Via.refl e107 F_c' (g := (mkF m 17 #[rv a1, iv (4 : Int32), iv (4 : Int32)] [(.ref a1), (.int (4 : Int32))])) rfl rfl (hb hby d5_17)
          have pre114 : ∀ tg, own_S p e below T113 m 52 #[rv a1, iv (4 : Int32), iv (4 : Int32)] [(.int (4 : Int32))] tg → Steps p.tables e below (s₁.setTop (entryFrame m #[(.ref a1)] 3)) tg := fun tg k => pre110 tg (by
            show own_S p e below T107 m 39 #[rv a1, iv (3 : Int32), iv (3 : Int32)] [(.int (x2 + (1 : Int32))), (.int x3)] _
            refine XS.icmpNo X107.here hx rfl (hb hby d5_39) rfl (feq hc39_109).1 ?_
            refine XS.iinc X107.here hx rfl (hb hby d5_42) rfl (l' := #[rv a1, iv (4 : Int32), iv (3 : Int32)]) rfl ?_
            refine XS.iinc X107.here hx rfl (hb hby d5_45) rfl (l' := #[rv a1, iv (4 : Int32), iv (4 : Int32)]) rfl ?_
            show own_S p e below T107 m 48 #[rv a1, iv (4 : Int32), iv (4 : Int32)] [] _
            refine XS.goto X107.here hx rfl (pc0 := 48) (pc' := 15) rfl (hb hby d5_48) (by decide) (by decide) ?_
            refine XS.iloadN X107.here hx rfl (hb hby d5_15) rfl ?_
            refine XS.aloadN X107.here hx rfl (hb hby d5_16) rfl rfl ?_
            show own_S p e below T107 m 17 #[rv a1, iv (4 : Int32), iv (4 : Int32)] [(.ref a1), (.int (4 : Int32))] _
            refine st113 _ ?_
            refine XS.icmpYes X113.here hx rfl (pc0 := 20) (pc' := 51) rfl (hb hby d5_20) rfl (flt (by decide : ¬ ((4 : Int32) < (4 : Int32)))).2.1 (by decide) (by decide) ?_
            refine XS.iloadN X113.here hx rfl (hb hby d5_51) rfl ?_
            exact k)
          obtain ⟨fs, hr, hrun, hended, hW, hsame⟩ := X113.leave (v := some (.int (4 : Int32))) (fun h => by rw [Bd.returns] at h; cases h)
          refine ⟨_, _, pre114 _ ?_, hrun, hended, _, _, rfl, ?_, ⟨_, rfl⟩, hW, hsame.mono (by decide) (by decide)⟩
          · show own_S p e below T113 m 52 #[rv a1, iv (4 : Int32), iv (4 : Int32)] [(.int (4 : Int32))] _
            exact retI X113 hx Bd.returns (hb hby d5_52) hr
          · show QRun Z a1 t k [x0, x1, x2, x3] vs h0 n0 _ T113.heap _
            rw [e113]
            refine ⟨?_, N0, rfl⟩
            simp only [own_runs]
            rw [if_neg hc39_55]
            rw [if_neg hc39_91]
            rw [if_neg hc39_109]
            try rfl
def own_mb (x a b c d n dr : Int32) : Int32 := if x = a then (if dr = 0 then 1 else 0) else if (1 < n ∧ x = b) ∨ (2 < n ∧ x = c) ∨ (3 < n ∧ x = d) then 1 else 0
def own_st (x a b c d n dr : Int32) : Int32 := if own_mb x a b c d n dr = 0 then 0 else if own_mb (x - 1) a b c d n dr = 0 then 1 else 0
theorem pn_2 : plainName "com/example/bitstrata/bitstrata/ArrayContainerRunCountPinLaw" = true := by first | (simp [plainName, overriddenIn]; done) | decide +kernel
theorem ef_Mb (m : MethodId) (xx : Int32) (xa : Int32) (xb : Int32) (xc : Int32) (xd : Int32) (xn : Int32) (xr : Int32) : entryFrame m #[(.int xx), (.int xa), (.int xb), (.int xc), (.int xd), (.int xn), (.int xr)] 7 = mkF m 0 #[iv xx, iv xa, iv xb, iv xc, iv xd, iv xn, iv xr] [] := by first | (simp [entryFrame, mkF, argsToLocals, Value.category]; done) | rfl
def QMb (Z : State) (xx : Int32) (xa : Int32) (xb : Int32) (xc : Int32) (xd : Int32) (xn : Int32) (xr : Int32) (h0 : Heap) (n0 : Nat) (v : Option Value) (h : Heap) (L : List Loc) : Prop := v = some (.int (own_mb xx xa xb xc xd xn xr)) ∧ Fr n0 L ∧ h = h0
theorem d4_0 : decode method_2_code 0 = .ok (.iload_n 0, 1) := by decide +kernel
theorem d4_1 : decode method_2_code 1 = .ok (.iload_n 1, 1) := by decide +kernel
theorem d4_2 : decode method_2_code 2 = .ok (.if_icmp .ne 14, 3) := by decide +kernel
theorem d4_5 : decode method_2_code 5 = .ok (.iload 6, 2) := by decide +kernel
theorem d4_7 : decode method_2_code 7 = .ok (.ifCond .ne 7, 3) := by decide +kernel
theorem d4_10 : decode method_2_code 10 = .ok (.iconst 1, 1) := by decide +kernel
theorem d4_11 : decode method_2_code 11 = .ok (.goto 4, 3) := by decide +kernel
theorem d4_15 : decode method_2_code 15 = .ok (.ireturn, 1) := by decide +kernel
theorem d4_14 : decode method_2_code 14 = .ok (.iconst 0, 1) := by decide +kernel
theorem d4_16 : decode method_2_code 16 = .ok (.iload 5, 2) := by decide +kernel
theorem d4_18 : decode method_2_code 18 = .ok (.iconst 1, 1) := by decide +kernel
theorem d4_19 : decode method_2_code 19 = .ok (.if_icmp .le 8, 3) := by decide +kernel
theorem d4_22 : decode method_2_code 22 = .ok (.iload_n 0, 1) := by decide +kernel
theorem d4_23 : decode method_2_code 23 = .ok (.iload_n 2, 1) := by decide +kernel
theorem d4_24 : decode method_2_code 24 = .ok (.if_icmp .eq 26, 3) := by decide +kernel
theorem d4_50 : decode method_2_code 50 = .ok (.iconst 1, 1) := by decide +kernel
theorem d4_51 : decode method_2_code 51 = .ok (.goto 4, 3) := by decide +kernel
theorem d4_55 : decode method_2_code 55 = .ok (.ireturn, 1) := by decide +kernel
theorem d4_27 : decode method_2_code 27 = .ok (.iload 5, 2) := by decide +kernel
theorem d4_29 : decode method_2_code 29 = .ok (.iconst 2, 1) := by decide +kernel
theorem d4_30 : decode method_2_code 30 = .ok (.if_icmp .le 8, 3) := by decide +kernel
theorem d4_33 : decode method_2_code 33 = .ok (.iload_n 0, 1) := by decide +kernel
theorem d4_34 : decode method_2_code 34 = .ok (.iload_n 3, 1) := by decide +kernel
theorem d4_35 : decode method_2_code 35 = .ok (.if_icmp .eq 15, 3) := by decide +kernel
theorem d4_38 : decode method_2_code 38 = .ok (.iload 5, 2) := by decide +kernel
theorem d4_40 : decode method_2_code 40 = .ok (.iconst 3, 1) := by decide +kernel
theorem d4_41 : decode method_2_code 41 = .ok (.if_icmp .le 13, 3) := by decide +kernel
theorem d4_44 : decode method_2_code 44 = .ok (.iload_n 0, 1) := by decide +kernel
theorem d4_45 : decode method_2_code 45 = .ok (.iload 4, 2) := by decide +kernel
theorem d4_47 : decode method_2_code 47 = .ok (.if_icmp .ne 7, 3) := by decide +kernel
theorem d4_54 : decode method_2_code 54 = .ok (.iconst 0, 1) := by decide +kernel
set_option maxRecDepth 65536 in
set_option maxHeartbeats 40000000 in
theorem rmMb (l : Launch) (Z : State) (a0 : Array Value) (hw : ∀ d ∈ tables_1, d.before a0 Z = true) (ws : List Jvm.Cond) (xx : Int32) (xa : Int32) (xb : Int32) (xc : Int32) (xd : Int32) (xn : Int32) (xr : Int32) (h0 : Heap) (n0 : Nat) (Z0 : n0 ≤ h0.size)  :
    MetFree l (⟨"com/example/bitstrata/bitstrata/ArrayContainerRunCountPinLaw", "member", "(IIIIIIZ)Z"⟩ : MethodName) (head1 (Jvm.Cond.code (⟨"com/example/bitstrata/bitstrata/ArrayContainerRunCountPinLaw", "member", "(IIIIIIZ)Z"⟩ : MethodName) method_2_code 7 (some .boolean) :: ws) ({ frames := 0, cells := 0, slots := 0, locals := 0 } : Room)) (fun a U => a = #[(.int xx), (.int xa), (.int xb), (.int xc), (.int xd), (.int xn), (.int xr)] ∧ Z.Warmed39 U.vm ∧ U.heap = h0) (fun _ _ _ _ _ => True) (fun _ U o U' => ∃ v L, o = .returned v ∧ QMb Z xx xa xb xc xd xn xr h0 n0 v U'.heap L ∧ FrameEnd U o U' L ({ frames := 0, cells := 0, slots := 0, locals := 0 } : Room).cells ({ frames := 0, cells := 0, slots := 0, locals := 0 } : Room).slots) := by
  refine MetFree.of_bodySF (plainFor_of_name pn_2) hisR ?_
  intro p e s m args below meth c s₁ Bd hml0 hP hK
  obtain ⟨rfl, hZ, hh⟩ := hP
  have hx := Bd.exec
  have hby := Bd.bytes
  have hml : c.maxLocals = 7 := hml0
  have hown : s.vm.findClass "com/example/bitstrata/bitstrata/ArrayContainerRunCountPinLaw" = some m.cls := findClass_of_methodNamed Bd.named
  have hnm := (name_of_methodNamed Bd.named Bd.method).1
  have X0 : Stand p l e ({ frames := 0, cells := 0, slots := 0, locals := 0 } : Room) s m #[(.int xx), (.int xa), (.int xb), (.int xc), (.int xd), (.int xn), (.int xr)] below meth c s₁ [] 0 0 := Stand.of_body Bd
  have e0 : s₁.heap = h0 := by rw [← hh, Bd.state]; rfl
  have N0 := Fr.nil n0
  have pre0 : ∀ tg, Steps p.tables e below (s₁.setTop (mkF m 0 #[iv xx, iv xa, iv xb, iv xc, iv xd, iv xn, iv xr] [])) tg → Steps p.tables e below (s₁.setTop (entryFrame m #[(.int xx), (.int xa), (.int xb), (.int xc), (.int xd), (.int xn), (.int xr)] 7)) tg := fun tg k => castTop (ef_Mb m xx xa xb xc xd xn xr) k
  have pre2 : ∀ tg, own_S p e below s₁ m 2 #[iv xx, iv xa, iv xb, iv xc, iv xd, iv xn, iv xr] [(.int xa), (.int xx)] tg → Steps p.tables e below (s₁.setTop (entryFrame m #[(.int xx), (.int xa), (.int xb), (.int xc), (.int xd), (.int xn), (.int xr)] 7)) tg := fun tg k => pre0 tg (by
    show own_S p e below s₁ m 0 #[iv xx, iv xa, iv xb, iv xc, iv xd, iv xn, iv xr] [] _
    refine XS.iloadN X0.here hx rfl (hb hby d4_0) rfl ?_
    refine XS.iloadN X0.here hx rfl (hb hby d4_1) rfl ?_
    exact k)
  by_cases hc2_1 : xx = xa
  ·  -- pc 2 yes
    have pre4 : ∀ tg, own_S p e below s₁ m 7 #[iv xx, iv xa, iv xb, iv xc, iv xd, iv xn, iv xr] [(.int xr)] tg → Steps p.tables e below (s₁.setTop (entryFrame m #[(.int xx), (.int xa), (.int xb), (.int xc), (.int xd), (.int xn), (.int xr)] 7)) tg := fun tg k => pre2 tg (by
      show own_S p e below s₁ m 2 #[iv xx, iv xa, iv xb, iv xc, iv xd, iv xn, iv xr] [(.int xa), (.int xx)] _
      refine XS.icmpNo X0.here hx rfl (hb hby d4_2) rfl (teq hc2_1).2 ?_
      refine XS.iload X0.here hx rfl (hb hby d4_5) rfl ?_
      exact k)
    by_cases hc7_3 : xr = (0 : Int32)
    ·  -- pc 7 yes
      have pre5 : ∀ tg, own_S p e below s₁ m 15 #[iv xx, iv xa, iv xb, iv xc, iv xd, iv xn, iv xr] [(.int (1 : Int32))] tg → Steps p.tables e below (s₁.setTop (entryFrame m #[(.int xx), (.int xa), (.int xb), (.int xc), (.int xd), (.int xn), (.int xr)] 7)) tg := fun tg k => pre4 tg (by
        show own_S p e below s₁ m 7 #[iv xx, iv xa, iv xb, iv xc, iv xd, iv xn, iv xr] [(.int xr)] _
        refine XS.ifNo X0.here hx rfl (hb hby d4_7) rfl ((if0 _ _).trans (teq hc7_3).2) ?_
        refine XS.iconst X0.here hx rfl (hb hby d4_10) ?_
        refine XS.goto X0.here hx rfl (pc0 := 11) (pc' := 15) rfl (hb hby d4_11) (by decide) (by decide) ?_
        exact k)
      obtain ⟨fs, hr, hrun, hended, hW, hsame⟩ := X0.leave (v := some (.int (nar .boolean (1 : Int32)))) (fun h => by rw [Bd.returns] at h; cases h)
      refine ⟨_, _, pre5 _ ?_, hrun, hended, _, _, rfl, ?_, ⟨_, rfl⟩, hW, hsame.mono (by decide) (by decide)⟩
      · show own_S p e below s₁ m 15 #[iv xx, iv xa, iv xb, iv xc, iv xd, iv xn, iv xr] [(.int (1 : Int32))] _
        exact retN X0 hx (t := .boolean) Bd.returns (by simp) (hb hby d4_15) hr
      · show QMb Z xx xa xb xc xd xn xr h0 n0 _ s₁.heap _
        rw [e0]
        exact ⟨by rw [(by decide : nar .boolean (1 : Int32) = (1 : Int32))]; unfold own_mb; rw [if_pos hc2_1, if_pos hc7_3], N0, rfl⟩
    ·  -- pc 7 no
      have pre6 : ∀ tg, own_S p e below s₁ m 15 #[iv xx, iv xa, iv xb, iv xc, iv xd, iv xn, iv xr] [(.int (0 : Int32))] tg → Steps p.tables e below (s₁.setTop (entryFrame m #[(.int xx), (.int xa), (.int xb), (.int xc), (.int xd), (.int xn), (.int xr)] 7)) tg := fun tg k => pre4 tg (by
        show own_S p e below s₁ m 7 #[iv xx, iv xa, iv xb, iv xc, iv xd, iv xn, iv xr] [(.int xr)] _
        refine XS.ifYes X0.here hx rfl (pc0 := 7) (pc' := 14) rfl (hb hby d4_7) rfl ((if0 _ _).trans (feq hc7_3).2) (by decide) (by decide) ?_
        refine XS.iconst X0.here hx rfl (hb hby d4_14) ?_
        exact k)
      obtain ⟨fs, hr, hrun, hended, hW, hsame⟩ := X0.leave (v := some (.int (nar .boolean (0 : Int32)))) (fun h => by rw [Bd.returns] at h; cases h)
      refine ⟨_, _, pre6 _ ?_, hrun, hended, _, _, rfl, ?_, ⟨_, rfl⟩, hW, hsame.mono (by decide) (by decide)⟩
      · show own_S p e below s₁ m 15 #[iv xx, iv xa, iv xb, iv xc, iv xd, iv xn, iv xr] [(.int (0 : Int32))] _
        exact retN X0 hx (t := .boolean) Bd.returns (by simp) (hb hby d4_15) hr
      · show QMb Z xx xa xb xc xd xn xr h0 n0 _ s₁.heap _
        rw [e0]
        exact ⟨by rw [(by decide : nar .boolean (0 : Int32) = (0 : Int32))]; unfold own_mb; rw [if_pos hc2_1, if_neg hc7_3], N0, rfl⟩
  ·  -- pc 2 no
    have pre8 : ∀ tg, own_S p e below s₁ m 19 #[iv xx, iv xa, iv xb, iv xc, iv xd, iv xn, iv xr] [(.int (1 : Int32)), (.int xn)] tg → Steps p.tables e below (s₁.setTop (entryFrame m #[(.int xx), (.int xa), (.int xb), (.int xc), (.int xd), (.int xn), (.int xr)] 7)) tg := fun tg k => pre2 tg (by
      show own_S p e below s₁ m 2 #[iv xx, iv xa, iv xb, iv xc, iv xd, iv xn, iv xr] [(.int xa), (.int xx)] _
      refine XS.icmpYes X0.here hx rfl (pc0 := 2) (pc' := 16) rfl (hb hby d4_2) rfl (feq hc2_1).2 (by decide) (by decide) ?_
      refine XS.iload X0.here hx rfl (hb hby d4_16) rfl ?_
      refine XS.iconst X0.here hx rfl (hb hby d4_18) ?_
      exact k)
    by_cases hc19_7 : (1 : Int32) < xn
    ·  -- pc 19 yes
      have pre10 : ∀ tg, own_S p e below s₁ m 24 #[iv xx, iv xa, iv xb, iv xc, iv xd, iv xn, iv xr] [(.int xb), (.int xx)] tg → Steps p.tables e below (s₁.setTop (entryFrame m #[(.int xx), (.int xa), (.int xb), (.int xc), (.int xd), (.int xn), (.int xr)] 7)) tg := fun tg k => pre8 tg (by
        show own_S p e below s₁ m 19 #[iv xx, iv xa, iv xb, iv xc, iv xd, iv xn, iv xr] [(.int (1 : Int32)), (.int xn)] _
        refine XS.icmpNo X0.here hx rfl (hb hby d4_19) rfl (tlt hc19_7).2.2.2 ?_
        refine XS.iloadN X0.here hx rfl (hb hby d4_22) rfl ?_
        refine XS.iloadN X0.here hx rfl (hb hby d4_23) rfl ?_
        exact k)
      by_cases hc24_9 : xx = xb
      ·  -- pc 24 yes
        have pre11 : ∀ tg, own_S p e below s₁ m 55 #[iv xx, iv xa, iv xb, iv xc, iv xd, iv xn, iv xr] [(.int (1 : Int32))] tg → Steps p.tables e below (s₁.setTop (entryFrame m #[(.int xx), (.int xa), (.int xb), (.int xc), (.int xd), (.int xn), (.int xr)] 7)) tg := fun tg k => pre10 tg (by
          show own_S p e below s₁ m 24 #[iv xx, iv xa, iv xb, iv xc, iv xd, iv xn, iv xr] [(.int xb), (.int xx)] _
          refine XS.icmpYes X0.here hx rfl (pc0 := 24) (pc' := 50) rfl (hb hby d4_24) rfl (teq hc24_9).1 (by decide) (by decide) ?_
          refine XS.iconst X0.here hx rfl (hb hby d4_50) ?_
          refine XS.goto X0.here hx rfl (pc0 := 51) (pc' := 55) rfl (hb hby d4_51) (by decide) (by decide) ?_
          exact k)
        obtain ⟨fs, hr, hrun, hended, hW, hsame⟩ := X0.leave (v := some (.int (nar .boolean (1 : Int32)))) (fun h => by rw [Bd.returns] at h; cases h)
        refine ⟨_, _, pre11 _ ?_, hrun, hended, _, _, rfl, ?_, ⟨_, rfl⟩, hW, hsame.mono (by decide) (by decide)⟩
        · show own_S p e below s₁ m 55 #[iv xx, iv xa, iv xb, iv xc, iv xd, iv xn, iv xr] [(.int (1 : Int32))] _
          exact retN X0 hx (t := .boolean) Bd.returns (by simp) (hb hby d4_55) hr
        · show QMb Z xx xa xb xc xd xn xr h0 n0 _ s₁.heap _
          rw [e0]
          exact ⟨by rw [(by decide : nar .boolean (1 : Int32) = (1 : Int32))]; unfold own_mb; rw [if_neg hc2_1, if_pos (Or.inl ⟨hc19_7, hc24_9⟩)], N0, rfl⟩
      ·  -- pc 24 no
        have pre13 : ∀ tg, own_S p e below s₁ m 30 #[iv xx, iv xa, iv xb, iv xc, iv xd, iv xn, iv xr] [(.int (2 : Int32)), (.int xn)] tg → Steps p.tables e below (s₁.setTop (entryFrame m #[(.int xx), (.int xa), (.int xb), (.int xc), (.int xd), (.int xn), (.int xr)] 7)) tg := fun tg k => pre10 tg (by
          show own_S p e below s₁ m 24 #[iv xx, iv xa, iv xb, iv xc, iv xd, iv xn, iv xr] [(.int xb), (.int xx)] _
          refine XS.icmpNo X0.here hx rfl (hb hby d4_24) rfl (feq hc24_9).1 ?_
          refine XS.iload X0.here hx rfl (hb hby d4_27) rfl ?_
          refine XS.iconst X0.here hx rfl (hb hby d4_29) ?_
          exact k)
        by_cases hc30_12 : (2 : Int32) < xn
        ·  -- pc 30 yes
          have pre15 : ∀ tg, own_S p e below s₁ m 35 #[iv xx, iv xa, iv xb, iv xc, iv xd, iv xn, iv xr] [(.int xc), (.int xx)] tg → Steps p.tables e below (s₁.setTop (entryFrame m #[(.int xx), (.int xa), (.int xb), (.int xc), (.int xd), (.int xn), (.int xr)] 7)) tg := fun tg k => pre13 tg (by
            show own_S p e below s₁ m 30 #[iv xx, iv xa, iv xb, iv xc, iv xd, iv xn, iv xr] [(.int (2 : Int32)), (.int xn)] _
            refine XS.icmpNo X0.here hx rfl (hb hby d4_30) rfl (tlt hc30_12).2.2.2 ?_
            refine XS.iloadN X0.here hx rfl (hb hby d4_33) rfl ?_
            refine XS.iloadN X0.here hx rfl (hb hby d4_34) rfl ?_
            exact k)
          by_cases hc35_14 : xx = xc
          ·  -- pc 35 yes
            have pre16 : ∀ tg, own_S p e below s₁ m 55 #[iv xx, iv xa, iv xb, iv xc, iv xd, iv xn, iv xr] [(.int (1 : Int32))] tg → Steps p.tables e below (s₁.setTop (entryFrame m #[(.int xx), (.int xa), (.int xb), (.int xc), (.int xd), (.int xn), (.int xr)] 7)) tg := fun tg k => pre15 tg (by
              show own_S p e below s₁ m 35 #[iv xx, iv xa, iv xb, iv xc, iv xd, iv xn, iv xr] [(.int xc), (.int xx)] _
              refine XS.icmpYes X0.here hx rfl (pc0 := 35) (pc' := 50) rfl (hb hby d4_35) rfl (teq hc35_14).1 (by decide) (by decide) ?_
              refine XS.iconst X0.here hx rfl (hb hby d4_50) ?_
              refine XS.goto X0.here hx rfl (pc0 := 51) (pc' := 55) rfl (hb hby d4_51) (by decide) (by decide) ?_
              exact k)
            obtain ⟨fs, hr, hrun, hended, hW, hsame⟩ := X0.leave (v := some (.int (nar .boolean (1 : Int32)))) (fun h => by rw [Bd.returns] at h; cases h)
            refine ⟨_, _, pre16 _ ?_, hrun, hended, _, _, rfl, ?_, ⟨_, rfl⟩, hW, hsame.mono (by decide) (by decide)⟩
            · show own_S p e below s₁ m 55 #[iv xx, iv xa, iv xb, iv xc, iv xd, iv xn, iv xr] [(.int (1 : Int32))] _
              exact retN X0 hx (t := .boolean) Bd.returns (by simp) (hb hby d4_55) hr
            · show QMb Z xx xa xb xc xd xn xr h0 n0 _ s₁.heap _
              rw [e0]
              exact ⟨by rw [(by decide : nar .boolean (1 : Int32) = (1 : Int32))]; unfold own_mb; rw [if_neg hc2_1, if_pos (Or.inr (Or.inl ⟨hc30_12, hc35_14⟩))], N0, rfl⟩
          ·  -- pc 35 no
            have pre18 : ∀ tg, own_S p e below s₁ m 41 #[iv xx, iv xa, iv xb, iv xc, iv xd, iv xn, iv xr] [(.int (3 : Int32)), (.int xn)] tg → Steps p.tables e below (s₁.setTop (entryFrame m #[(.int xx), (.int xa), (.int xb), (.int xc), (.int xd), (.int xn), (.int xr)] 7)) tg := fun tg k => pre15 tg (by
              show own_S p e below s₁ m 35 #[iv xx, iv xa, iv xb, iv xc, iv xd, iv xn, iv xr] [(.int xc), (.int xx)] _
              refine XS.icmpNo X0.here hx rfl (hb hby d4_35) rfl (feq hc35_14).1 ?_
              refine XS.iload X0.here hx rfl (hb hby d4_38) rfl ?_
              refine XS.iconst X0.here hx rfl (hb hby d4_40) ?_
              exact k)
            by_cases hc41_17 : (3 : Int32) < xn
            ·  -- pc 41 yes
              have pre20 : ∀ tg, own_S p e below s₁ m 47 #[iv xx, iv xa, iv xb, iv xc, iv xd, iv xn, iv xr] [(.int xd), (.int xx)] tg → Steps p.tables e below (s₁.setTop (entryFrame m #[(.int xx), (.int xa), (.int xb), (.int xc), (.int xd), (.int xn), (.int xr)] 7)) tg := fun tg k => pre18 tg (by
                show own_S p e below s₁ m 41 #[iv xx, iv xa, iv xb, iv xc, iv xd, iv xn, iv xr] [(.int (3 : Int32)), (.int xn)] _
                refine XS.icmpNo X0.here hx rfl (hb hby d4_41) rfl (tlt hc41_17).2.2.2 ?_
                refine XS.iloadN X0.here hx rfl (hb hby d4_44) rfl ?_
                refine XS.iload X0.here hx rfl (hb hby d4_45) rfl ?_
                exact k)
              by_cases hc47_19 : xx = xd
              ·  -- pc 47 yes
                have pre21 : ∀ tg, own_S p e below s₁ m 55 #[iv xx, iv xa, iv xb, iv xc, iv xd, iv xn, iv xr] [(.int (1 : Int32))] tg → Steps p.tables e below (s₁.setTop (entryFrame m #[(.int xx), (.int xa), (.int xb), (.int xc), (.int xd), (.int xn), (.int xr)] 7)) tg := fun tg k => pre20 tg (by
                  show own_S p e below s₁ m 47 #[iv xx, iv xa, iv xb, iv xc, iv xd, iv xn, iv xr] [(.int xd), (.int xx)] _
                  refine XS.icmpNo X0.here hx rfl (hb hby d4_47) rfl (teq hc47_19).2 ?_
                  refine XS.iconst X0.here hx rfl (hb hby d4_50) ?_
                  refine XS.goto X0.here hx rfl (pc0 := 51) (pc' := 55) rfl (hb hby d4_51) (by decide) (by decide) ?_
                  exact k)
                obtain ⟨fs, hr, hrun, hended, hW, hsame⟩ := X0.leave (v := some (.int (nar .boolean (1 : Int32)))) (fun h => by rw [Bd.returns] at h; cases h)
                refine ⟨_, _, pre21 _ ?_, hrun, hended, _, _, rfl, ?_, ⟨_, rfl⟩, hW, hsame.mono (by decide) (by decide)⟩
                · show own_S p e below s₁ m 55 #[iv xx, iv xa, iv xb, iv xc, iv xd, iv xn, iv xr] [(.int (1 : Int32))] _
                  exact retN X0 hx (t := .boolean) Bd.returns (by simp) (hb hby d4_55) hr
                · show QMb Z xx xa xb xc xd xn xr h0 n0 _ s₁.heap _
                  rw [e0]
                  exact ⟨by rw [(by decide : nar .boolean (1 : Int32) = (1 : Int32))]; unfold own_mb; rw [if_neg hc2_1, if_pos (Or.inr (Or.inr ⟨hc41_17, hc47_19⟩))], N0, rfl⟩
              ·  -- pc 47 no
                have pre22 : ∀ tg, own_S p e below s₁ m 55 #[iv xx, iv xa, iv xb, iv xc, iv xd, iv xn, iv xr] [(.int (0 : Int32))] tg → Steps p.tables e below (s₁.setTop (entryFrame m #[(.int xx), (.int xa), (.int xb), (.int xc), (.int xd), (.int xn), (.int xr)] 7)) tg := fun tg k => pre20 tg (by
                  show own_S p e below s₁ m 47 #[iv xx, iv xa, iv xb, iv xc, iv xd, iv xn, iv xr] [(.int xd), (.int xx)] _
                  refine XS.icmpYes X0.here hx rfl (pc0 := 47) (pc' := 54) rfl (hb hby d4_47) rfl (feq hc47_19).2 (by decide) (by decide) ?_
                  refine XS.iconst X0.here hx rfl (hb hby d4_54) ?_
                  exact k)
                obtain ⟨fs, hr, hrun, hended, hW, hsame⟩ := X0.leave (v := some (.int (nar .boolean (0 : Int32)))) (fun h => by rw [Bd.returns] at h; cases h)
                refine ⟨_, _, pre22 _ ?_, hrun, hended, _, _, rfl, ?_, ⟨_, rfl⟩, hW, hsame.mono (by decide) (by decide)⟩
                · show own_S p e below s₁ m 55 #[iv xx, iv xa, iv xb, iv xc, iv xd, iv xn, iv xr] [(.int (0 : Int32))] _
                  exact retN X0 hx (t := .boolean) Bd.returns (by simp) (hb hby d4_55) hr
                · show QMb Z xx xa xb xc xd xn xr h0 n0 _ s₁.heap _
                  rw [e0]
                  exact ⟨by rw [(by decide : nar .boolean (0 : Int32) = (0 : Int32))]; unfold own_mb; rw [if_neg hc2_1, if_neg (fun q => by rcases q with ⟨q1, q2⟩ | ⟨q1, q2⟩ | ⟨q1, q2⟩ <;> contradiction)], N0, rfl⟩
            ·  -- pc 41 no
              have pre23 : ∀ tg, own_S p e below s₁ m 55 #[iv xx, iv xa, iv xb, iv xc, iv xd, iv xn, iv xr] [(.int (0 : Int32))] tg → Steps p.tables e below (s₁.setTop (entryFrame m #[(.int xx), (.int xa), (.int xb), (.int xc), (.int xd), (.int xn), (.int xr)] 7)) tg := fun tg k => pre18 tg (by
                show own_S p e below s₁ m 41 #[iv xx, iv xa, iv xb, iv xc, iv xd, iv xn, iv xr] [(.int (3 : Int32)), (.int xn)] _
                refine XS.icmpYes X0.here hx rfl (pc0 := 41) (pc' := 54) rfl (hb hby d4_41) rfl (flt hc41_17).2.2.2 (by decide) (by decide) ?_
                refine XS.iconst X0.here hx rfl (hb hby d4_54) ?_
                exact k)
              obtain ⟨fs, hr, hrun, hended, hW, hsame⟩ := X0.leave (v := some (.int (nar .boolean (0 : Int32)))) (fun h => by rw [Bd.returns] at h; cases h)
              refine ⟨_, _, pre23 _ ?_, hrun, hended, _, _, rfl, ?_, ⟨_, rfl⟩, hW, hsame.mono (by decide) (by decide)⟩
              · show own_S p e below s₁ m 55 #[iv xx, iv xa, iv xb, iv xc, iv xd, iv xn, iv xr] [(.int (0 : Int32))] _
                exact retN X0 hx (t := .boolean) Bd.returns (by simp) (hb hby d4_55) hr
              · show QMb Z xx xa xb xc xd xn xr h0 n0 _ s₁.heap _
                rw [e0]
                exact ⟨by rw [(by decide : nar .boolean (0 : Int32) = (0 : Int32))]; unfold own_mb; rw [if_neg hc2_1, if_neg (fun q => by rcases q with ⟨q1, q2⟩ | ⟨q1, q2⟩ | ⟨q1, q2⟩ <;> contradiction)], N0, rfl⟩
        ·  -- pc 30 no
          have pre25 : ∀ tg, own_S p e below s₁ m 41 #[iv xx, iv xa, iv xb, iv xc, iv xd, iv xn, iv xr] [(.int (3 : Int32)), (.int xn)] tg → Steps p.tables e below (s₁.setTop (entryFrame m #[(.int xx), (.int xa), (.int xb), (.int xc), (.int xd), (.int xn), (.int xr)] 7)) tg := fun tg k => pre13 tg (by
            show own_S p e below s₁ m 30 #[iv xx, iv xa, iv xb, iv xc, iv xd, iv xn, iv xr] [(.int (2 : Int32)), (.int xn)] _
            refine XS.icmpYes X0.here hx rfl (pc0 := 30) (pc' := 38) rfl (hb hby d4_30) rfl (flt hc30_12).2.2.2 (by decide) (by decide) ?_
            refine XS.iload X0.here hx rfl (hb hby d4_38) rfl ?_
            refine XS.iconst X0.here hx rfl (hb hby d4_40) ?_
            exact k)
          by_cases hc41_24 : (3 : Int32) < xn
          ·  -- pc 41 yes
            have pre27 : ∀ tg, own_S p e below s₁ m 47 #[iv xx, iv xa, iv xb, iv xc, iv xd, iv xn, iv xr] [(.int xd), (.int xx)] tg → Steps p.tables e below (s₁.setTop (entryFrame m #[(.int xx), (.int xa), (.int xb), (.int xc), (.int xd), (.int xn), (.int xr)] 7)) tg := fun tg k => pre25 tg (by
              show own_S p e below s₁ m 41 #[iv xx, iv xa, iv xb, iv xc, iv xd, iv xn, iv xr] [(.int (3 : Int32)), (.int xn)] _
              refine XS.icmpNo X0.here hx rfl (hb hby d4_41) rfl (tlt hc41_24).2.2.2 ?_
              refine XS.iloadN X0.here hx rfl (hb hby d4_44) rfl ?_
              refine XS.iload X0.here hx rfl (hb hby d4_45) rfl ?_
              exact k)
            by_cases hc47_26 : xx = xd
            ·  -- pc 47 yes
              have pre28 : ∀ tg, own_S p e below s₁ m 55 #[iv xx, iv xa, iv xb, iv xc, iv xd, iv xn, iv xr] [(.int (1 : Int32))] tg → Steps p.tables e below (s₁.setTop (entryFrame m #[(.int xx), (.int xa), (.int xb), (.int xc), (.int xd), (.int xn), (.int xr)] 7)) tg := fun tg k => pre27 tg (by
                show own_S p e below s₁ m 47 #[iv xx, iv xa, iv xb, iv xc, iv xd, iv xn, iv xr] [(.int xd), (.int xx)] _
                refine XS.icmpNo X0.here hx rfl (hb hby d4_47) rfl (teq hc47_26).2 ?_
                refine XS.iconst X0.here hx rfl (hb hby d4_50) ?_
                refine XS.goto X0.here hx rfl (pc0 := 51) (pc' := 55) rfl (hb hby d4_51) (by decide) (by decide) ?_
                exact k)
              obtain ⟨fs, hr, hrun, hended, hW, hsame⟩ := X0.leave (v := some (.int (nar .boolean (1 : Int32)))) (fun h => by rw [Bd.returns] at h; cases h)
              refine ⟨_, _, pre28 _ ?_, hrun, hended, _, _, rfl, ?_, ⟨_, rfl⟩, hW, hsame.mono (by decide) (by decide)⟩
              · show own_S p e below s₁ m 55 #[iv xx, iv xa, iv xb, iv xc, iv xd, iv xn, iv xr] [(.int (1 : Int32))] _
                exact retN X0 hx (t := .boolean) Bd.returns (by simp) (hb hby d4_55) hr
              · show QMb Z xx xa xb xc xd xn xr h0 n0 _ s₁.heap _
                rw [e0]
                exact ⟨by rw [(by decide : nar .boolean (1 : Int32) = (1 : Int32))]; unfold own_mb; rw [if_neg hc2_1, if_pos (Or.inr (Or.inr ⟨hc41_24, hc47_26⟩))], N0, rfl⟩
            ·  -- pc 47 no
              have pre29 : ∀ tg, own_S p e below s₁ m 55 #[iv xx, iv xa, iv xb, iv xc, iv xd, iv xn, iv xr] [(.int (0 : Int32))] tg → Steps p.tables e below (s₁.setTop (entryFrame m #[(.int xx), (.int xa), (.int xb), (.int xc), (.int xd), (.int xn), (.int xr)] 7)) tg := fun tg k => pre27 tg (by
                show own_S p e below s₁ m 47 #[iv xx, iv xa, iv xb, iv xc, iv xd, iv xn, iv xr] [(.int xd), (.int xx)] _
                refine XS.icmpYes X0.here hx rfl (pc0 := 47) (pc' := 54) rfl (hb hby d4_47) rfl (feq hc47_26).2 (by decide) (by decide) ?_
                refine XS.iconst X0.here hx rfl (hb hby d4_54) ?_
                exact k)
              obtain ⟨fs, hr, hrun, hended, hW, hsame⟩ := X0.leave (v := some (.int (nar .boolean (0 : Int32)))) (fun h => by rw [Bd.returns] at h; cases h)
              refine ⟨_, _, pre29 _ ?_, hrun, hended, _, _, rfl, ?_, ⟨_, rfl⟩, hW, hsame.mono (by decide) (by decide)⟩
              · show own_S p e below s₁ m 55 #[iv xx, iv xa, iv xb, iv xc, iv xd, iv xn, iv xr] [(.int (0 : Int32))] _
                exact retN X0 hx (t := .boolean) Bd.returns (by simp) (hb hby d4_55) hr
              · show QMb Z xx xa xb xc xd xn xr h0 n0 _ s₁.heap _
                rw [e0]
                exact ⟨by rw [(by decide : nar .boolean (0 : Int32) = (0 : Int32))]; unfold own_mb; rw [if_neg hc2_1, if_neg (fun q => by rcases q with ⟨q1, q2⟩ | ⟨q1, q2⟩ | ⟨q1, q2⟩ <;> contradiction)], N0, rfl⟩
          ·  -- pc 41 no
            have pre30 : ∀ tg, own_S p e below s₁ m 55 #[iv xx, iv xa, iv xb, iv xc, iv xd, iv xn, iv xr] [(.int (0 : Int32))] tg → Steps p.tables e below (s₁.setTop (entryFrame m #[(.int xx), (.int xa), (.int xb), (.int xc), (.int xd), (.int xn), (.int xr)] 7)) tg := fun tg k => pre25 tg (by
              show own_S p e below s₁ m 41 #[iv xx, iv xa, iv xb, iv xc, iv xd, iv xn, iv xr] [(.int (3 : Int32)), (.int xn)] _
              refine XS.icmpYes X0.here hx rfl (pc0 := 41) (pc' := 54) rfl (hb hby d4_41) rfl (flt hc41_24).2.2.2 (by decide) (by decide) ?_
              refine XS.iconst X0.here hx rfl (hb hby d4_54) ?_
              exact k)
            obtain ⟨fs, hr, hrun, hended, hW, hsame⟩ := X0.leave (v := some (.int (nar .boolean (0 : Int32)))) (fun h => by rw [Bd.returns] at h; cases h)
            refine ⟨_, _, pre30 _ ?_, hrun, hended, _, _, rfl, ?_, ⟨_, rfl⟩, hW, hsame.mono (by decide) (by decide)⟩
            · show own_S p e below s₁ m 55 #[iv xx, iv xa, iv xb, iv xc, iv xd, iv xn, iv xr] [(.int (0 : Int32))] _
              exact retN X0 hx (t := .boolean) Bd.returns (by simp) (hb hby d4_55) hr
            · show QMb Z xx xa xb xc xd xn xr h0 n0 _ s₁.heap _
              rw [e0]
              exact ⟨by rw [(by decide : nar .boolean (0 : Int32) = (0 : Int32))]; unfold own_mb; rw [if_neg hc2_1, if_neg (fun q => by rcases q with ⟨q1, q2⟩ | ⟨q1, q2⟩ | ⟨q1, q2⟩ <;> contradiction)], N0, rfl⟩
    ·  -- pc 19 no
      have pre32 : ∀ tg, own_S p e below s₁ m 30 #[iv xx, iv xa, iv xb, iv xc, iv xd, iv xn, iv xr] [(.int (2 : Int32)), (.int xn)] tg → Steps p.tables e below (s₁.setTop (entryFrame m #[(.int xx), (.int xa), (.int xb), (.int xc), (.int xd), (.int xn), (.int xr)] 7)) tg := fun tg k => pre8 tg (by
        show own_S p e below s₁ m 19 #[iv xx, iv xa, iv xb, iv xc, iv xd, iv xn, iv xr] [(.int (1 : Int32)), (.int xn)] _
        refine XS.icmpYes X0.here hx rfl (pc0 := 19) (pc' := 27) rfl (hb hby d4_19) rfl (flt hc19_7).2.2.2 (by decide) (by decide) ?_
        refine XS.iload X0.here hx rfl (hb hby d4_27) rfl ?_
        refine XS.iconst X0.here hx rfl (hb hby d4_29) ?_
        exact k)
      by_cases hc30_31 : (2 : Int32) < xn
      ·  -- pc 30 yes
        have pre34 : ∀ tg, own_S p e below s₁ m 35 #[iv xx, iv xa, iv xb, iv xc, iv xd, iv xn, iv xr] [(.int xc), (.int xx)] tg → Steps p.tables e below (s₁.setTop (entryFrame m #[(.int xx), (.int xa), (.int xb), (.int xc), (.int xd), (.int xn), (.int xr)] 7)) tg := fun tg k => pre32 tg (by
          show own_S p e below s₁ m 30 #[iv xx, iv xa, iv xb, iv xc, iv xd, iv xn, iv xr] [(.int (2 : Int32)), (.int xn)] _
          refine XS.icmpNo X0.here hx rfl (hb hby d4_30) rfl (tlt hc30_31).2.2.2 ?_
          refine XS.iloadN X0.here hx rfl (hb hby d4_33) rfl ?_
          refine XS.iloadN X0.here hx rfl (hb hby d4_34) rfl ?_
          exact k)
        by_cases hc35_33 : xx = xc
        ·  -- pc 35 yes
          have pre35 : ∀ tg, own_S p e below s₁ m 55 #[iv xx, iv xa, iv xb, iv xc, iv xd, iv xn, iv xr] [(.int (1 : Int32))] tg → Steps p.tables e below (s₁.setTop (entryFrame m #[(.int xx), (.int xa), (.int xb), (.int xc), (.int xd), (.int xn), (.int xr)] 7)) tg := fun tg k => pre34 tg (by
            show own_S p e below s₁ m 35 #[iv xx, iv xa, iv xb, iv xc, iv xd, iv xn, iv xr] [(.int xc), (.int xx)] _
            refine XS.icmpYes X0.here hx rfl (pc0 := 35) (pc' := 50) rfl (hb hby d4_35) rfl (teq hc35_33).1 (by decide) (by decide) ?_
            refine XS.iconst X0.here hx rfl (hb hby d4_50) ?_
            refine XS.goto X0.here hx rfl (pc0 := 51) (pc' := 55) rfl (hb hby d4_51) (by decide) (by decide) ?_
            exact k)
          obtain ⟨fs, hr, hrun, hended, hW, hsame⟩ := X0.leave (v := some (.int (nar .boolean (1 : Int32)))) (fun h => by rw [Bd.returns] at h; cases h)
          refine ⟨_, _, pre35 _ ?_, hrun, hended, _, _, rfl, ?_, ⟨_, rfl⟩, hW, hsame.mono (by decide) (by decide)⟩
          · show own_S p e below s₁ m 55 #[iv xx, iv xa, iv xb, iv xc, iv xd, iv xn, iv xr] [(.int (1 : Int32))] _
            exact retN X0 hx (t := .boolean) Bd.returns (by simp) (hb hby d4_55) hr
          · show QMb Z xx xa xb xc xd xn xr h0 n0 _ s₁.heap _
            rw [e0]
            exact ⟨by rw [(by decide : nar .boolean (1 : Int32) = (1 : Int32))]; unfold own_mb; rw [if_neg hc2_1, if_pos (Or.inr (Or.inl ⟨hc30_31, hc35_33⟩))], N0, rfl⟩
        ·  -- pc 35 no
          have pre37 : ∀ tg, own_S p e below s₁ m 41 #[iv xx, iv xa, iv xb, iv xc, iv xd, iv xn, iv xr] [(.int (3 : Int32)), (.int xn)] tg → Steps p.tables e below (s₁.setTop (entryFrame m #[(.int xx), (.int xa), (.int xb), (.int xc), (.int xd), (.int xn), (.int xr)] 7)) tg := fun tg k => pre34 tg (by
            show own_S p e below s₁ m 35 #[iv xx, iv xa, iv xb, iv xc, iv xd, iv xn, iv xr] [(.int xc), (.int xx)] _
            refine XS.icmpNo X0.here hx rfl (hb hby d4_35) rfl (feq hc35_33).1 ?_
            refine XS.iload X0.here hx rfl (hb hby d4_38) rfl ?_
            refine XS.iconst X0.here hx rfl (hb hby d4_40) ?_
            exact k)
          by_cases hc41_36 : (3 : Int32) < xn
          ·  -- pc 41 yes
            have pre39 : ∀ tg, own_S p e below s₁ m 47 #[iv xx, iv xa, iv xb, iv xc, iv xd, iv xn, iv xr] [(.int xd), (.int xx)] tg → Steps p.tables e below (s₁.setTop (entryFrame m #[(.int xx), (.int xa), (.int xb), (.int xc), (.int xd), (.int xn), (.int xr)] 7)) tg := fun tg k => pre37 tg (by
              show own_S p e below s₁ m 41 #[iv xx, iv xa, iv xb, iv xc, iv xd, iv xn, iv xr] [(.int (3 : Int32)), (.int xn)] _
              refine XS.icmpNo X0.here hx rfl (hb hby d4_41) rfl (tlt hc41_36).2.2.2 ?_
              refine XS.iloadN X0.here hx rfl (hb hby d4_44) rfl ?_
              refine XS.iload X0.here hx rfl (hb hby d4_45) rfl ?_
              exact k)
            by_cases hc47_38 : xx = xd
            ·  -- pc 47 yes
              have pre40 : ∀ tg, own_S p e below s₁ m 55 #[iv xx, iv xa, iv xb, iv xc, iv xd, iv xn, iv xr] [(.int (1 : Int32))] tg → Steps p.tables e below (s₁.setTop (entryFrame m #[(.int xx), (.int xa), (.int xb), (.int xc), (.int xd), (.int xn), (.int xr)] 7)) tg := fun tg k => pre39 tg (by
                show own_S p e below s₁ m 47 #[iv xx, iv xa, iv xb, iv xc, iv xd, iv xn, iv xr] [(.int xd), (.int xx)] _
                refine XS.icmpNo X0.here hx rfl (hb hby d4_47) rfl (teq hc47_38).2 ?_
                refine XS.iconst X0.here hx rfl (hb hby d4_50) ?_
                refine XS.goto X0.here hx rfl (pc0 := 51) (pc' := 55) rfl (hb hby d4_51) (by decide) (by decide) ?_
                exact k)
              obtain ⟨fs, hr, hrun, hended, hW, hsame⟩ := X0.leave (v := some (.int (nar .boolean (1 : Int32)))) (fun h => by rw [Bd.returns] at h; cases h)
              refine ⟨_, _, pre40 _ ?_, hrun, hended, _, _, rfl, ?_, ⟨_, rfl⟩, hW, hsame.mono (by decide) (by decide)⟩
              · show own_S p e below s₁ m 55 #[iv xx, iv xa, iv xb, iv xc, iv xd, iv xn, iv xr] [(.int (1 : Int32))] _
                exact retN X0 hx (t := .boolean) Bd.returns (by simp) (hb hby d4_55) hr
              · show QMb Z xx xa xb xc xd xn xr h0 n0 _ s₁.heap _
                rw [e0]
                exact ⟨by rw [(by decide : nar .boolean (1 : Int32) = (1 : Int32))]; unfold own_mb; rw [if_neg hc2_1, if_pos (Or.inr (Or.inr ⟨hc41_36, hc47_38⟩))], N0, rfl⟩
            ·  -- pc 47 no
              have pre41 : ∀ tg, own_S p e below s₁ m 55 #[iv xx, iv xa, iv xb, iv xc, iv xd, iv xn, iv xr] [(.int (0 : Int32))] tg → Steps p.tables e below (s₁.setTop (entryFrame m #[(.int xx), (.int xa), (.int xb), (.int xc), (.int xd), (.int xn), (.int xr)] 7)) tg := fun tg k => pre39 tg (by
                show own_S p e below s₁ m 47 #[iv xx, iv xa, iv xb, iv xc, iv xd, iv xn, iv xr] [(.int xd), (.int xx)] _
                refine XS.icmpYes X0.here hx rfl (pc0 := 47) (pc' := 54) rfl (hb hby d4_47) rfl (feq hc47_38).2 (by decide) (by decide) ?_
                refine XS.iconst X0.here hx rfl (hb hby d4_54) ?_
                exact k)
              obtain ⟨fs, hr, hrun, hended, hW, hsame⟩ := X0.leave (v := some (.int (nar .boolean (0 : Int32)))) (fun h => by rw [Bd.returns] at h; cases h)
              refine ⟨_, _, pre41 _ ?_, hrun, hended, _, _, rfl, ?_, ⟨_, rfl⟩, hW, hsame.mono (by decide) (by decide)⟩
              · show own_S p e below s₁ m 55 #[iv xx, iv xa, iv xb, iv xc, iv xd, iv xn, iv xr] [(.int (0 : Int32))] _
                exact retN X0 hx (t := .boolean) Bd.returns (by simp) (hb hby d4_55) hr
              · show QMb Z xx xa xb xc xd xn xr h0 n0 _ s₁.heap _
                rw [e0]
                exact ⟨by rw [(by decide : nar .boolean (0 : Int32) = (0 : Int32))]; unfold own_mb; rw [if_neg hc2_1, if_neg (fun q => by rcases q with ⟨q1, q2⟩ | ⟨q1, q2⟩ | ⟨q1, q2⟩ <;> contradiction)], N0, rfl⟩
          ·  -- pc 41 no
            have pre42 : ∀ tg, own_S p e below s₁ m 55 #[iv xx, iv xa, iv xb, iv xc, iv xd, iv xn, iv xr] [(.int (0 : Int32))] tg → Steps p.tables e below (s₁.setTop (entryFrame m #[(.int xx), (.int xa), (.int xb), (.int xc), (.int xd), (.int xn), (.int xr)] 7)) tg := fun tg k => pre37 tg (by
              show own_S p e below s₁ m 41 #[iv xx, iv xa, iv xb, iv xc, iv xd, iv xn, iv xr] [(.int (3 : Int32)), (.int xn)] _
              refine XS.icmpYes X0.here hx rfl (pc0 := 41) (pc' := 54) rfl (hb hby d4_41) rfl (flt hc41_36).2.2.2 (by decide) (by decide) ?_
              refine XS.iconst X0.here hx rfl (hb hby d4_54) ?_
              exact k)
            obtain ⟨fs, hr, hrun, hended, hW, hsame⟩ := X0.leave (v := some (.int (nar .boolean (0 : Int32)))) (fun h => by rw [Bd.returns] at h; cases h)
            refine ⟨_, _, pre42 _ ?_, hrun, hended, _, _, rfl, ?_, ⟨_, rfl⟩, hW, hsame.mono (by decide) (by decide)⟩
            · show own_S p e below s₁ m 55 #[iv xx, iv xa, iv xb, iv xc, iv xd, iv xn, iv xr] [(.int (0 : Int32))] _
              exact retN X0 hx (t := .boolean) Bd.returns (by simp) (hb hby d4_55) hr
            · show QMb Z xx xa xb xc xd xn xr h0 n0 _ s₁.heap _
              rw [e0]
              exact ⟨by rw [(by decide : nar .boolean (0 : Int32) = (0 : Int32))]; unfold own_mb; rw [if_neg hc2_1, if_neg (fun q => by rcases q with ⟨q1, q2⟩ | ⟨q1, q2⟩ | ⟨q1, q2⟩ <;> contradiction)], N0, rfl⟩
      ·  -- pc 30 no
        have pre44 : ∀ tg, own_S p e below s₁ m 41 #[iv xx, iv xa, iv xb, iv xc, iv xd, iv xn, iv xr] [(.int (3 : Int32)), (.int xn)] tg → Steps p.tables e below (s₁.setTop (entryFrame m #[(.int xx), (.int xa), (.int xb), (.int xc), (.int xd), (.int xn), (.int xr)] 7)) tg := fun tg k => pre32 tg (by
          show own_S p e below s₁ m 30 #[iv xx, iv xa, iv xb, iv xc, iv xd, iv xn, iv xr] [(.int (2 : Int32)), (.int xn)] _
          refine XS.icmpYes X0.here hx rfl (pc0 := 30) (pc' := 38) rfl (hb hby d4_30) rfl (flt hc30_31).2.2.2 (by decide) (by decide) ?_
          refine XS.iload X0.here hx rfl (hb hby d4_38) rfl ?_
          refine XS.iconst X0.here hx rfl (hb hby d4_40) ?_
          exact k)
        by_cases hc41_43 : (3 : Int32) < xn
        ·  -- pc 41 yes
          have pre46 : ∀ tg, own_S p e below s₁ m 47 #[iv xx, iv xa, iv xb, iv xc, iv xd, iv xn, iv xr] [(.int xd), (.int xx)] tg → Steps p.tables e below (s₁.setTop (entryFrame m #[(.int xx), (.int xa), (.int xb), (.int xc), (.int xd), (.int xn), (.int xr)] 7)) tg := fun tg k => pre44 tg (by
            show own_S p e below s₁ m 41 #[iv xx, iv xa, iv xb, iv xc, iv xd, iv xn, iv xr] [(.int (3 : Int32)), (.int xn)] _
            refine XS.icmpNo X0.here hx rfl (hb hby d4_41) rfl (tlt hc41_43).2.2.2 ?_
            refine XS.iloadN X0.here hx rfl (hb hby d4_44) rfl ?_
            refine XS.iload X0.here hx rfl (hb hby d4_45) rfl ?_
            exact k)
          by_cases hc47_45 : xx = xd
          ·  -- pc 47 yes
            have pre47 : ∀ tg, own_S p e below s₁ m 55 #[iv xx, iv xa, iv xb, iv xc, iv xd, iv xn, iv xr] [(.int (1 : Int32))] tg → Steps p.tables e below (s₁.setTop (entryFrame m #[(.int xx), (.int xa), (.int xb), (.int xc), (.int xd), (.int xn), (.int xr)] 7)) tg := fun tg k => pre46 tg (by
              show own_S p e below s₁ m 47 #[iv xx, iv xa, iv xb, iv xc, iv xd, iv xn, iv xr] [(.int xd), (.int xx)] _
              refine XS.icmpNo X0.here hx rfl (hb hby d4_47) rfl (teq hc47_45).2 ?_
              refine XS.iconst X0.here hx rfl (hb hby d4_50) ?_
              refine XS.goto X0.here hx rfl (pc0 := 51) (pc' := 55) rfl (hb hby d4_51) (by decide) (by decide) ?_
              exact k)
            obtain ⟨fs, hr, hrun, hended, hW, hsame⟩ := X0.leave (v := some (.int (nar .boolean (1 : Int32)))) (fun h => by rw [Bd.returns] at h; cases h)
            refine ⟨_, _, pre47 _ ?_, hrun, hended, _, _, rfl, ?_, ⟨_, rfl⟩, hW, hsame.mono (by decide) (by decide)⟩
            · show own_S p e below s₁ m 55 #[iv xx, iv xa, iv xb, iv xc, iv xd, iv xn, iv xr] [(.int (1 : Int32))] _
              exact retN X0 hx (t := .boolean) Bd.returns (by simp) (hb hby d4_55) hr
            · show QMb Z xx xa xb xc xd xn xr h0 n0 _ s₁.heap _
              rw [e0]
              exact ⟨by rw [(by decide : nar .boolean (1 : Int32) = (1 : Int32))]; unfold own_mb; rw [if_neg hc2_1, if_pos (Or.inr (Or.inr ⟨hc41_43, hc47_45⟩))], N0, rfl⟩
          ·  -- pc 47 no
            have pre48 : ∀ tg, own_S p e below s₁ m 55 #[iv xx, iv xa, iv xb, iv xc, iv xd, iv xn, iv xr] [(.int (0 : Int32))] tg → Steps p.tables e below (s₁.setTop (entryFrame m #[(.int xx), (.int xa), (.int xb), (.int xc), (.int xd), (.int xn), (.int xr)] 7)) tg := fun tg k => pre46 tg (by
              show own_S p e below s₁ m 47 #[iv xx, iv xa, iv xb, iv xc, iv xd, iv xn, iv xr] [(.int xd), (.int xx)] _
              refine XS.icmpYes X0.here hx rfl (pc0 := 47) (pc' := 54) rfl (hb hby d4_47) rfl (feq hc47_45).2 (by decide) (by decide) ?_
              refine XS.iconst X0.here hx rfl (hb hby d4_54) ?_
              exact k)
            obtain ⟨fs, hr, hrun, hended, hW, hsame⟩ := X0.leave (v := some (.int (nar .boolean (0 : Int32)))) (fun h => by rw [Bd.returns] at h; cases h)
            refine ⟨_, _, pre48 _ ?_, hrun, hended, _, _, rfl, ?_, ⟨_, rfl⟩, hW, hsame.mono (by decide) (by decide)⟩
            · show own_S p e below s₁ m 55 #[iv xx, iv xa, iv xb, iv xc, iv xd, iv xn, iv xr] [(.int (0 : Int32))] _
              exact retN X0 hx (t := .boolean) Bd.returns (by simp) (hb hby d4_55) hr
            · show QMb Z xx xa xb xc xd xn xr h0 n0 _ s₁.heap _
              rw [e0]
              exact ⟨by rw [(by decide : nar .boolean (0 : Int32) = (0 : Int32))]; unfold own_mb; rw [if_neg hc2_1, if_neg (fun q => by rcases q with ⟨q1, q2⟩ | ⟨q1, q2⟩ | ⟨q1, q2⟩ <;> contradiction)], N0, rfl⟩
        ·  -- pc 41 no
          have pre49 : ∀ tg, own_S p e below s₁ m 55 #[iv xx, iv xa, iv xb, iv xc, iv xd, iv xn, iv xr] [(.int (0 : Int32))] tg → Steps p.tables e below (s₁.setTop (entryFrame m #[(.int xx), (.int xa), (.int xb), (.int xc), (.int xd), (.int xn), (.int xr)] 7)) tg := fun tg k => pre44 tg (by
            show own_S p e below s₁ m 41 #[iv xx, iv xa, iv xb, iv xc, iv xd, iv xn, iv xr] [(.int (3 : Int32)), (.int xn)] _
            refine XS.icmpYes X0.here hx rfl (pc0 := 41) (pc' := 54) rfl (hb hby d4_41) rfl (flt hc41_43).2.2.2 (by decide) (by decide) ?_
            refine XS.iconst X0.here hx rfl (hb hby d4_54) ?_
            exact k)
          obtain ⟨fs, hr, hrun, hended, hW, hsame⟩ := X0.leave (v := some (.int (nar .boolean (0 : Int32)))) (fun h => by rw [Bd.returns] at h; cases h)
          refine ⟨_, _, pre49 _ ?_, hrun, hended, _, _, rfl, ?_, ⟨_, rfl⟩, hW, hsame.mono (by decide) (by decide)⟩
          · show own_S p e below s₁ m 55 #[iv xx, iv xa, iv xb, iv xc, iv xd, iv xn, iv xr] [(.int (0 : Int32))] _
            exact retN X0 hx (t := .boolean) Bd.returns (by simp) (hb hby d4_55) hr
          · show QMb Z xx xa xb xc xd xn xr h0 n0 _ s₁.heap _
            rw [e0]
            exact ⟨by rw [(by decide : nar .boolean (0 : Int32) = (0 : Int32))]; unfold own_mb; rw [if_neg hc2_1, if_neg (fun q => by rcases q with ⟨q1, q2⟩ | ⟨q1, q2⟩ | ⟨q1, q2⟩ <;> contradiction)], N0, rfl⟩
theorem ef_St (m : MethodId) (xx : Int32) (xa : Int32) (xb : Int32) (xc : Int32) (xd : Int32) (xn : Int32) (xr : Int32) : entryFrame m #[(.int xx), (.int xa), (.int xb), (.int xc), (.int xd), (.int xn), (.int xr)] 7 = mkF m 0 #[iv xx, iv xa, iv xb, iv xc, iv xd, iv xn, iv xr] [] := by first | (simp [entryFrame, mkF, argsToLocals, Value.category]; done) | rfl
def QSt (Z : State) (xx : Int32) (xa : Int32) (xb : Int32) (xc : Int32) (xd : Int32) (xn : Int32) (xr : Int32) (h0 : Heap) (n0 : Nat) (v : Option Value) (h : Heap) (L : List Loc) : Prop := v = some (.int (own_st xx xa xb xc xd xn xr)) ∧ Fr n0 L ∧ h = h0
theorem d3_0 : decode method_3_code 0 = .ok (.iload_n 0, 1) := by decide +kernel
theorem d3_1 : decode method_3_code 1 = .ok (.iload_n 1, 1) := by decide +kernel
theorem d3_2 : decode method_3_code 2 = .ok (.iload_n 2, 1) := by decide +kernel
theorem d3_3 : decode method_3_code 3 = .ok (.iload_n 3, 1) := by decide +kernel
theorem d3_4 : decode method_3_code 4 = .ok (.iload 4, 2) := by decide +kernel
theorem d3_6 : decode method_3_code 6 = .ok (.iload 5, 2) := by decide +kernel
theorem d3_8 : decode method_3_code 8 = .ok (.iload 6, 2) := by decide +kernel
theorem d3_10 : decode method_3_code 10 = .ok (.invokestatic 7, 3) := by decide +kernel
theorem pd_2 : parseMethodDescriptor "(IIIIIIZ)Z" = some ⟨[.int, .int, .int, .int, .int, .int, .boolean], some .boolean⟩ := by decide +kernel
theorem d3_13 : decode method_3_code 13 = .ok (.ifCond .eq 23, 3) := by decide +kernel
theorem d3_36 : decode method_3_code 36 = .ok (.iconst 0, 1) := by decide +kernel
theorem d3_37 : decode method_3_code 37 = .ok (.ireturn, 1) := by decide +kernel
theorem d3_16 : decode method_3_code 16 = .ok (.iload_n 0, 1) := by decide +kernel
theorem d3_17 : decode method_3_code 17 = .ok (.iconst 1, 1) := by decide +kernel
theorem d3_18 : decode method_3_code 18 = .ok (.isub, 1) := by decide +kernel
theorem d3_19 : decode method_3_code 19 = .ok (.iload_n 1, 1) := by decide +kernel
theorem d3_20 : decode method_3_code 20 = .ok (.iload_n 2, 1) := by decide +kernel
theorem d3_21 : decode method_3_code 21 = .ok (.iload_n 3, 1) := by decide +kernel
theorem d3_22 : decode method_3_code 22 = .ok (.iload 4, 2) := by decide +kernel
theorem d3_24 : decode method_3_code 24 = .ok (.iload 5, 2) := by decide +kernel
theorem d3_26 : decode method_3_code 26 = .ok (.iload 6, 2) := by decide +kernel
theorem d3_28 : decode method_3_code 28 = .ok (.invokestatic 7, 3) := by decide +kernel
theorem d3_31 : decode method_3_code 31 = .ok (.ifCond .ne 5, 3) := by decide +kernel
theorem d3_34 : decode method_3_code 34 = .ok (.iconst 1, 1) := by decide +kernel
theorem d3_35 : decode method_3_code 35 = .ok (.ireturn, 1) := by decide +kernel
set_option maxRecDepth 65536 in
set_option maxHeartbeats 40000000 in
theorem rmSt (l : Launch) (Z : State) (a0 : Array Value) (hw : ∀ d ∈ tables_1, d.before a0 Z = true) (ws : List Jvm.Cond) (xx : Int32) (xa : Int32) (xb : Int32) (xc : Int32) (xd : Int32) (xn : Int32) (xr : Int32) (h0 : Heap) (n0 : Nat) (Z0 : n0 ≤ h0.size)  :
    MetFree l (⟨"com/example/bitstrata/bitstrata/ArrayContainerRunCountPinLaw", "starts", "(IIIIIIZ)I"⟩ : MethodName) (head1 (Jvm.Cond.code (⟨"com/example/bitstrata/bitstrata/ArrayContainerRunCountPinLaw", "starts", "(IIIIIIZ)I"⟩ : MethodName) method_3_code 7 (some .int) :: ws) ({ frames := 1, cells := 0, slots := 0, locals := 24 } : Room)) (fun a U => a = #[(.int xx), (.int xa), (.int xb), (.int xc), (.int xd), (.int xn), (.int xr)] ∧ Z.Warmed39 U.vm ∧ U.heap = h0) (fun _ _ _ _ _ => True) (fun _ U o U' => ∃ v L, o = .returned v ∧ QSt Z xx xa xb xc xd xn xr h0 n0 v U'.heap L ∧ FrameEnd U o U' L ({ frames := 1, cells := 0, slots := 0, locals := 24 } : Room).cells ({ frames := 1, cells := 0, slots := 0, locals := 24 } : Room).slots) := by
  refine MetFree.of_bodySF (plainFor_of_name pn_2) hisR ?_
  intro p e s m args below meth c s₁ Bd hml0 hP hK
  obtain ⟨rfl, hZ, hh⟩ := hP
  have hx := Bd.exec
  have hby := Bd.bytes
  have hml : c.maxLocals = 7 := hml0
  have hown : s.vm.findClass "com/example/bitstrata/bitstrata/ArrayContainerRunCountPinLaw" = some m.cls := findClass_of_methodNamed Bd.named
  have hnm := (name_of_methodNamed Bd.named Bd.method).1
  have X0 : Stand p l e ({ frames := 1, cells := 0, slots := 0, locals := 24 } : Room) s m #[(.int xx), (.int xa), (.int xb), (.int xc), (.int xd), (.int xn), (.int xr)] below meth c s₁ [] 0 0 := Stand.of_body Bd
  have e0 : s₁.heap = h0 := by rw [← hh, Bd.state]; rfl
  have N0 := Fr.nil n0
  have pre0 : ∀ tg, Steps p.tables e below (s₁.setTop (mkF m 0 #[iv xx, iv xa, iv xb, iv xc, iv xd, iv xn, iv xr] [])) tg → Steps p.tables e below (s₁.setTop (entryFrame m #[(.int xx), (.int xa), (.int xb), (.int xc), (.int xd), (.int xn), (.int xr)] 7)) tg := fun tg k => castTop (ef_St m xx xa xb xc xd xn xr) k
  obtain ⟨_, _, ⟨T1, L1, k1, n1⟩, -, X1, ⟨Lc1, hQ1, l1, y1, z1⟩, st1⟩ := Jvm.LawKit.callS X0 hx (y := (⟨"com/example/bitstrata/bitstrata/ArrayContainerRunCountPinLaw", "member", "(IIIIIIZ)Z"⟩ : MethodName)) hown (mvT hZ (hw _ (List.mem_of_getElem? (i := 18) rfl))) (mvT hZ (hw _ (List.mem_of_getElem? (i := 19) rfl))) (mvT hZ (hw _ (List.mem_of_getElem? (i := 16) rfl))) (mvT hZ (hw _ (List.mem_of_getElem? (i := 20) rfl))) (by decide) (backOf (W := 0) (rmMb l Z a0 hw [] xx xa xb xc xd xn xr h0 n0 Z0 ) hZ (hw _ (List.mem_of_getElem? (i := 20) rfl)) (hw _ (List.mem_of_getElem? (i := 16) rfl)) (by decide) (by decide)) (g := (mkF m 10 #[iv xx, iv xa, iv xb, iv xc, iv xd, iv xn, iv xr] [(.int xr), (.int xn), (.int xd), (.int xc), (.int xb), (.int xa), (.int xx)])) rfl (by rw [hml]; rfl) (argsL := [(.int xx), (.int xa), (.int xb), (.int xc), (.int xd), (.int xn), (.int xr)]) (rest := []) (lenOf pd_2 rfl) rfl (by show 2 * 0 + _ ≤ _; exact Nat.le_of_eq rfl) (hb hby d3_10) (fun _ _ => ⟨rfl, e0, (by decide : 0 + 0 ≤ _), (by decide : 0 + 0 ≤ _)⟩)
  dsimp only [Pt.U, Pt.locs, Pt.cells, Pt.slots] at X1 l1 y1 z1 st1 hQ1
  subst l1 y1 z1
  obtain ⟨rfl, N1q, e1q⟩ := hQ1
  have N1 := Fr.app N0 N1q
  have e1 : T1.heap = h0 := e1q
  have pre3 : ∀ tg, own_S p e below T1 m 13 #[iv xx, iv xa, iv xb, iv xc, iv xd, iv xn, iv xr] [(.int (own_mb xx xa xb xc xd xn xr))] tg → Steps p.tables e below (s₁.setTop (entryFrame m #[(.int xx), (.int xa), (.int xb), (.int xc), (.int xd), (.int xn), (.int xr)] 7)) tg := fun tg k => pre0 tg (by
    show own_S p e below s₁ m 0 #[iv xx, iv xa, iv xb, iv xc, iv xd, iv xn, iv xr] [] _
    refine XS.iloadN X0.here hx rfl (hb hby d3_0) rfl ?_
    refine XS.iloadN X0.here hx rfl (hb hby d3_1) rfl ?_
    refine XS.iloadN X0.here hx rfl (hb hby d3_2) rfl ?_
    show own_S p e below s₁ m 3 #[iv xx, iv xa, iv xb, iv xc, iv xd, iv xn, iv xr] [(.int xb), (.int xa), (.int xx)] _
    refine XS.iloadN X0.here hx rfl (hb hby d3_3) rfl ?_
    refine XS.iload X0.here hx rfl (hb hby d3_4) rfl ?_
    refine XS.iload X0.here hx rfl (hb hby d3_6) rfl ?_
    show own_S p e below s₁ m 8 #[iv xx, iv xa, iv xb, iv xc, iv xd, iv xn, iv xr] [(.int xn), (.int xd), (.int xc), (.int xb), (.int xa), (.int xx)] _
    refine XS.iload X0.here hx rfl (hb hby d3_8) rfl ?_
    refine st1 _ ?_
    exact k)
  by_cases hc13_2 : (own_mb xx xa xb xc xd xn xr) = (0 : Int32)
  ·  -- pc 13 yes
    have pre4 : ∀ tg, own_S p e below T1 m 37 #[iv xx, iv xa, iv xb, iv xc, iv xd, iv xn, iv xr] [(.int (0 : Int32))] tg → Steps p.tables e below (s₁.setTop (entryFrame m #[(.int xx), (.int xa), (.int xb), (.int xc), (.int xd), (.int xn), (.int xr)] 7)) tg := fun tg k => pre3 tg (by
      show own_S p e below T1 m 13 #[iv xx, iv xa, iv xb, iv xc, iv xd, iv xn, iv xr] [(.int (own_mb xx xa xb xc xd xn xr))] _
      refine XS.ifYes X1.here hx rfl (pc0 := 13) (pc' := 36) rfl (hb hby d3_13) rfl ((if0 _ _).trans (teq hc13_2).1) (by decide) (by decide) ?_
      refine XS.iconst X1.here hx rfl (hb hby d3_36) ?_
      exact k)
    obtain ⟨fs, hr, hrun, hended, hW, hsame⟩ := X1.leave (v := some (.int (0 : Int32))) (fun h => by rw [Bd.returns] at h; cases h)
    refine ⟨_, _, pre4 _ ?_, hrun, hended, _, _, rfl, ?_, ⟨_, rfl⟩, hW, hsame.mono (by decide) (by decide)⟩
    · show own_S p e below T1 m 37 #[iv xx, iv xa, iv xb, iv xc, iv xd, iv xn, iv xr] [(.int (0 : Int32))] _
      exact retI X1 hx Bd.returns (hb hby d3_37) hr
    · show QSt Z xx xa xb xc xd xn xr h0 n0 _ T1.heap _
      rw [e1]
      exact ⟨by simp [own_st, hc13_2], N1, rfl⟩
  ·  -- pc 13 no
    obtain ⟨_, _, ⟨T5, L5, k5, n5⟩, -, X5, ⟨Lc5, hQ5, l5, y5, z5⟩, st5⟩ := Jvm.LawKit.callS X1 hx (y := (⟨"com/example/bitstrata/bitstrata/ArrayContainerRunCountPinLaw", "member", "(IIIIIIZ)Z"⟩ : MethodName)) hown (mvT hZ (hw _ (List.mem_of_getElem? (i := 18) rfl))) (mvT hZ (hw _ (List.mem_of_getElem? (i := 19) rfl))) (mvT hZ (hw _ (List.mem_of_getElem? (i := 16) rfl))) (mvT hZ (hw _ (List.mem_of_getElem? (i := 20) rfl))) (by decide) (backOf (W := 0) (rmMb l Z a0 hw [] (xx - (1 : Int32)) xa xb xc xd xn xr h0 n0 Z0 ) hZ (hw _ (List.mem_of_getElem? (i := 20) rfl)) (hw _ (List.mem_of_getElem? (i := 16) rfl)) (by decide) (by decide)) (g := (mkF m 28 #[iv xx, iv xa, iv xb, iv xc, iv xd, iv xn, iv xr] [(.int xr), (.int xn), (.int xd), (.int xc), (.int xb), (.int xa), (.int (xx - (1 : Int32)))])) rfl (by rw [hml]; rfl) (argsL := [(.int (xx - (1 : Int32))), (.int xa), (.int xb), (.int xc), (.int xd), (.int xn), (.int xr)]) (rest := []) (lenOf pd_2 rfl) rfl (by show 2 * 0 + _ ≤ _; exact Nat.le_of_eq rfl) (hb hby d3_28) (fun _ _ => ⟨rfl, e1, (by decide : 0 + 0 ≤ _), (by decide : 0 + 0 ≤ _)⟩)
    dsimp only [Pt.U, Pt.locs, Pt.cells, Pt.slots] at X5 l5 y5 z5 st5 hQ5
    subst l5 y5 z5
    obtain ⟨rfl, N5q, e5q⟩ := hQ5
    have N5 := Fr.app N1 N5q
    have e5 : T5.heap = h0 := e5q
    have pre7 : ∀ tg, own_S p e below T5 m 31 #[iv xx, iv xa, iv xb, iv xc, iv xd, iv xn, iv xr] [(.int (own_mb (xx - (1 : Int32)) xa xb xc xd xn xr))] tg → Steps p.tables e below (s₁.setTop (entryFrame m #[(.int xx), (.int xa), (.int xb), (.int xc), (.int xd), (.int xn), (.int xr)] 7)) tg := fun tg k => pre3 tg (by
      show own_S p e below T1 m 13 #[iv xx, iv xa, iv xb, iv xc, iv xd, iv xn, iv xr] [(.int (own_mb xx xa xb xc xd xn xr))] _
      refine XS.ifNo X1.here hx rfl (hb hby d3_13) rfl ((if0 _ _).trans (feq hc13_2).1) ?_
      refine XS.iloadN X1.here hx rfl (hb hby d3_16) rfl ?_
      refine XS.iconst X1.here hx rfl (hb hby d3_17) ?_
      show own_S p e below T1 m 18 #[iv xx, iv xa, iv xb, iv xc, iv xd, iv xn, iv xr] [(.int (1 : Int32)), (.int xx)] _
      refine XS.isub X1.here hx rfl (hb hby d3_18) rfl ?_
      refine XS.iloadN X1.here hx rfl (hb hby d3_19) rfl ?_
      refine XS.iloadN X1.here hx rfl (hb hby d3_20) rfl ?_
      show own_S p e below T1 m 21 #[iv xx, iv xa, iv xb, iv xc, iv xd, iv xn, iv xr] [(.int xb), (.int xa), (.int (xx - (1 : Int32)))] _
      refine XS.iloadN X1.here hx rfl (hb hby d3_21) rfl ?_
      refine XS.iload X1.here hx rfl (hb hby d3_22) rfl ?_
      refine XS.iload X1.here hx rfl (hb hby d3_24) rfl ?_
      show own_S p e below T1 m 26 #[iv xx, iv xa, iv xb, iv xc, iv xd, iv xn, iv xr] [(.int xn), (.int xd), (.int xc), (.int xb), (.int xa), (.int (xx - (1 : Int32)))] _
      refine XS.iload X1.here hx rfl (hb hby d3_26) rfl ?_
      refine st5 _ ?_
      exact k)
    by_cases hc31_6 : (own_mb (xx - (1 : Int32)) xa xb xc xd xn xr) = (0 : Int32)
    ·  -- pc 31 yes
      have pre8 : ∀ tg, own_S p e below T5 m 35 #[iv xx, iv xa, iv xb, iv xc, iv xd, iv xn, iv xr] [(.int (1 : Int32))] tg → Steps p.tables e below (s₁.setTop (entryFrame m #[(.int xx), (.int xa), (.int xb), (.int xc), (.int xd), (.int xn), (.int xr)] 7)) tg := fun tg k => pre7 tg (by
        show own_S p e below T5 m 31 #[iv xx, iv xa, iv xb, iv xc, iv xd, iv xn, iv xr] [(.int (own_mb (xx - (1 : Int32)) xa xb xc xd xn xr))] _
        refine XS.ifNo X5.here hx rfl (hb hby d3_31) rfl ((if0 _ _).trans (teq hc31_6).2) ?_
        refine XS.iconst X5.here hx rfl (hb hby d3_34) ?_
        exact k)
      obtain ⟨fs, hr, hrun, hended, hW, hsame⟩ := X5.leave (v := some (.int (1 : Int32))) (fun h => by rw [Bd.returns] at h; cases h)
      refine ⟨_, _, pre8 _ ?_, hrun, hended, _, _, rfl, ?_, ⟨_, rfl⟩, hW, hsame.mono (by decide) (by decide)⟩
      · show own_S p e below T5 m 35 #[iv xx, iv xa, iv xb, iv xc, iv xd, iv xn, iv xr] [(.int (1 : Int32))] _
        exact retI X5 hx Bd.returns (hb hby d3_35) hr
      · show QSt Z xx xa xb xc xd xn xr h0 n0 _ T5.heap _
        rw [e5]
        exact ⟨by simp [own_st, hc13_2, hc31_6], N5, rfl⟩
    ·  -- pc 31 no
      have pre9 : ∀ tg, own_S p e below T5 m 37 #[iv xx, iv xa, iv xb, iv xc, iv xd, iv xn, iv xr] [(.int (0 : Int32))] tg → Steps p.tables e below (s₁.setTop (entryFrame m #[(.int xx), (.int xa), (.int xb), (.int xc), (.int xd), (.int xn), (.int xr)] 7)) tg := fun tg k => pre7 tg (by
        show own_S p e below T5 m 31 #[iv xx, iv xa, iv xb, iv xc, iv xd, iv xn, iv xr] [(.int (own_mb (xx - (1 : Int32)) xa xb xc xd xn xr))] _
        refine XS.ifYes X5.here hx rfl (pc0 := 31) (pc' := 36) rfl (hb hby d3_31) rfl ((if0 _ _).trans (feq hc31_6).2) (by decide) (by decide) ?_
        refine XS.iconst X5.here hx rfl (hb hby d3_36) ?_
        exact k)
      obtain ⟨fs, hr, hrun, hended, hW, hsame⟩ := X5.leave (v := some (.int (0 : Int32))) (fun h => by rw [Bd.returns] at h; cases h)
      refine ⟨_, _, pre9 _ ?_, hrun, hended, _, _, rfl, ?_, ⟨_, rfl⟩, hW, hsame.mono (by decide) (by decide)⟩
      · show own_S p e below T5 m 37 #[iv xx, iv xa, iv xb, iv xc, iv xd, iv xn, iv xr] [(.int (0 : Int32))] _
        exact retI X5 hx Bd.returns (hb hby d3_37) hr
      · show QSt Z xx xa xb xc xd xn xr h0 n0 _ T5.heap _
        rw [e5]
        exact ⟨by simp [own_st, hc13_2, hc31_6], N5, rfl⟩
def own_sum (f : Int32 → Int32) : List Int32 → Int32
  | [] => 0
  | x :: r => f x + own_sum f r
theorem own_sum_erase (f : Int32 → Int32) {x : Int32} : ∀ {l : List Int32}, x ∈ l → own_sum f l = f x + own_sum f (l.erase x)
  | [], h => by cases h
  | y :: r, h => by
    by_cases e : y = x
    · subst e; simp [own_sum]
    · have hr : x ∈ r := (List.mem_cons.mp h).resolve_left fun q => e q.symm
      rw [List.erase_cons_tail (by simpa using e)]
      simp only [own_sum]
      rw [own_sum_erase f hr, ← Int32.add_assoc, ← Int32.add_assoc, Int32.add_comm (f y)]
theorem own_sum_ext (f : Int32 → Int32) : ∀ {l1 l2 : List Int32}, l1.Nodup → l2.Nodup → (∀ x, x ∈ l1 ↔ x ∈ l2) → own_sum f l1 = own_sum f l2
  | [], l2, _, _, h => by
    match l2, h with
    | [], _ => rfl
    | y :: r, h => exact absurd ((h y).mpr (by simp)) (by simp)
  | x :: r, l2, h1, h2, h => by
    have hx : x ∈ l2 := (h x).mp (by simp)
    have hn := List.nodup_cons.mp h1
    rw [own_sum_erase f hx]
    simp only [own_sum]
    rw [own_sum_ext f hn.2 (h2.erase x) fun y => ?_]
    rw [h2.mem_erase_iff]
    constructor
    · intro hy
      exact ⟨fun e => hn.1 (e ▸ hy), (h y).mp (List.mem_cons_of_mem _ hy)⟩
    · intro hy
      exact (List.mem_cons.mp ((h y).mpr hy.2)).resolve_left hy.1
theorem own_sum_filter (f : Int32 → Int32) (xs : List Int32) : ∀ l : List Int32, (∀ x, ¬ x ∈ xs → f x = 0) → own_sum f l = own_sum f (l.filter fun x => decide (x ∈ xs))
  | [], _ => rfl
  | y :: r, h => by
    by_cases e : y ∈ xs
    · rw [List.filter_cons_of_pos (by simpa using e)]
      simp only [own_sum]; rw [own_sum_filter f xs r h]
    · rw [List.filter_cons_of_neg (by simpa using e)]
      simp only [own_sum]; rw [own_sum_filter f xs r h, h y e, Int32.zero_add]
theorem own_sum_congr (f g : Int32 → Int32) : ∀ l : List Int32, (∀ x ∈ l, f x = g x) → own_sum f l = own_sum g l
  | [], _ => rfl
  | y :: r, h => by simp only [own_sum]; rw [h y (by simp), own_sum_congr f g r fun x hx => h x (List.mem_cons_of_mem _ hx)]
theorem own_srt_lt : ∀ {x : Int32} {l : List Int32}, own_srt (x :: l) → ∀ y ∈ l, x < y
  | x, [], _, y, h => by cases h
  | x, z :: r, hs, y, h => by
    rcases List.mem_cons.mp h with rfl | h
    · exact hs.1
    · exact own_tr hs.1 (own_srt_lt hs.2 y h)
theorem own_srt_tail {x : Int32} {l : List Int32} (h : own_srt (x :: l)) : own_srt l := by
  match l, h with
  | [], _ => trivial
  | _ :: _, h => exact h.2
theorem own_srt_nodup : ∀ {l : List Int32}, own_srt l → l.Nodup
  | [], _ => List.nodup_nil
  | x :: r, h => List.nodup_cons.mpr ⟨fun q => own_irr _ (own_srt_lt h x q), own_srt_nodup (own_srt_tail h)⟩
def own_rng (xs : List Int32) : Prop := ∀ x ∈ xs, 0 ≤ x.toInt ∧ x.toInt < 65536
theorem own_rng_of {xs : List Int32} (h : own_chs xs) : own_rng xs := fun x hx => by
  have e := c_i2c x
  have q : x.toUInt32.toUInt16.toUInt32.toInt32 = x := h x hx
  rw [q] at e; exact e.2
theorem own_pred {x : Int32} (h0 : 0 ≤ x.toInt) (h1 : x.toInt < 65536) : (x - 1).toInt = x.toInt - 1 := by
  have e := c_isub x 1
  have r := rng32 (x - 1)
  have l : (1 : Int32).toInt = 1 := by decide
  rw [l] at e; omega
theorem own_succ {x y : Int32} (hx0 : 0 ≤ x.toInt) (hx1 : x.toInt < 65536) (hy0 : 0 ≤ y.toInt) (hy1 : y.toInt < 65536) : y - 1 = x ↔ y = x + 1 := by
  have e := c_iadd x 1
  have r := rng32 (x + 1)
  have l : (1 : Int32).toInt = 1 := by decide
  have p := own_pred hy0 hy1
  rw [l] at e
  rw [← Int32.toInt_inj, ← Int32.toInt_inj]; omega
theorem own_runs_sum : ∀ {xs : List Int32}, own_srt xs → own_rng xs → own_runs xs = own_sum (fun x => if (x - 1) ∈ xs then 0 else 1) xs
  | [], _, _ => rfl
  | [x], _, hr => by
    have p := own_pred (hr x (by simp)).1 (hr x (by simp)).2
    have ne : ¬ (x - 1) ∈ [x] := fun q => by
      have := congrArg Int32.toInt (List.mem_singleton.mp q)
      omega
    simp only [own_runs, own_sum, if_neg ne]; rfl
  | x :: y :: r, hs, hr => by
    have hx := hr x (by simp)
    have hy := hr y (by simp)
    have ih := own_runs_sum (xs := y :: r) hs.2 fun z hz => hr z (List.mem_cons_of_mem _ hz)
    have big : ∀ z ∈ y :: r, x < z := own_srt_lt hs
    have px := own_pred hx.1 hx.2
    have py := own_pred hy.1 hy.2
    have n1 : ¬ (x - 1) ∈ x :: y :: r := fun q => by
      rcases List.mem_cons.mp q with q | q
      · have := congrArg Int32.toInt q; omega
      · have := Int32.lt_iff_toInt_lt.mp (big _ q); omega
    have n2 : ¬ (y - 1) ∈ y :: r := fun q => by
      rcases List.mem_cons.mp q with q | q
      · have := congrArg Int32.toInt q; omega
      · have := Int32.lt_iff_toInt_lt.mp (own_srt_lt hs.2 _ q); omega
    have hc : own_sum (fun z => if (z - 1) ∈ x :: y :: r then 0 else 1) r = own_sum (fun z => if (z - 1) ∈ y :: r then 0 else 1) r := by
      refine own_sum_congr _ _ r fun z hz => ?_
      have hzr := hr z (List.mem_cons_of_mem _ (List.mem_cons_of_mem _ hz))
      have pz := own_pred hzr.1 hzr.2
      have yz := Int32.lt_iff_toInt_lt.mp (own_srt_lt hs.2 z hz)
      have xy := Int32.lt_iff_toInt_lt.mp hs.1
      have nx : ¬ z - 1 = x := fun q => by
        have := congrArg Int32.toInt q; omega
      have : (z - 1) ∈ x :: y :: r ↔ (z - 1) ∈ y :: r := ⟨fun q => (List.mem_cons.mp q).resolve_left nx, fun q => List.mem_cons_of_mem _ q⟩
      simp only [this]
    have n3 : (y - 1) ∈ x :: y :: r ↔ y = x + 1 := by
      rw [← own_succ hx.1 hx.2 hy.1 hy.2]
      exact ⟨fun q => (List.mem_cons.mp q).resolve_right n2, fun q => by rw [q]; simp⟩
    simp only [own_runs]
    rw [ih]
    simp only [own_sum, if_neg n1, if_neg n2, hc, n3]
    by_cases e : y = x + 1
    · simp only [if_pos e, Int32.add_zero, Int32.zero_add]
    · simp only [if_neg e]; rw [Int32.add_comm]
theorem own_plain {xs dd : List Int32} {f : Int32 → Int32} (hs : own_srt xs) (hr : own_rng xs) (hd : dd.Nodup) (hm : ∀ x ∈ xs, x ∈ dd) (hf : ∀ x, f x = if x ∈ xs then (if (x - 1) ∈ xs then 0 else 1) else 0) : own_runs xs = own_sum f dd := by
  rw [own_runs_sum hs hr, own_sum_filter f xs dd fun x hx => by rw [hf, if_neg hx]]
  rw [own_sum_ext f (l1 := dd.filter fun x => decide (x ∈ xs)) (l2 := xs) (hd.filter _) (own_srt_nodup hs) fun x => by
    rw [List.mem_filter]; simp only [decide_eq_true_eq]
    exact ⟨fun q => q.2, fun q => ⟨hm x q, q⟩⟩]
  exact own_sum_congr _ _ xs fun x hx => by rw [hf, if_pos hx]
def own_set (a b c d n dr x : Int32) : Prop := (x = a ∧ dr = 0) ∨ (¬ x = a ∧ ((1 < n ∧ x = b) ∨ (2 < n ∧ x = c) ∨ (3 < n ∧ x = d)))
theorem own_mb_set (a b c d n dr x : Int32) : (own_mb x a b c d n dr = 0 ↔ ¬ own_set a b c d n dr x) := by
  unfold own_mb own_set
  by_cases e : x = a
  · by_cases z : dr = 0 <;> simp [e, z]
  · by_cases z : (1 < n ∧ x = b) ∨ (2 < n ∧ x = c) ∨ (3 < n ∧ x = d) <;> simp [e, z]
theorem own_st_f {xs : List Int32} {a b c d n dr : Int32} (h : ∀ x, x ∈ xs ↔ own_set a b c d n dr x) (x : Int32) : own_st x a b c d n dr = if x ∈ xs then (if (x - 1) ∈ xs then 0 else 1) else 0 := by
  unfold own_st
  have e1 := own_mb_set a b c d n dr x
  have e2 := own_mb_set a b c d n dr (x - 1)
  rw [← h] at e1 e2
  by_cases q : x ∈ xs
  · have : ¬ own_mb x a b c d n dr = 0 := fun z => e1.mp z q
    by_cases q2 : (x - 1) ∈ xs
    · have z2 : ¬ own_mb (x - 1) a b c d n dr = 0 := fun z => e2.mp z q2
      simp [this, q, q2, z2]
    · simp [this, q, q2, e2.mpr q2]
  · simp [q, e1.mpr q]
theorem own_dd1 (f : Int32 → Int32) (a : Int32) (e1 : Int32) (h1 : e1 = f a) : ∃ dd : List Int32, dd.Nodup ∧ e1 = own_sum f dd ∧ ∀ x, x ∈ dd ↔ (x = a) := by
  exact ⟨[a], by simp, by rw [h1]; simp [own_sum], fun x => by simp⟩
theorem own_dd2 (f : Int32 → Int32) (a b : Int32) (e1 e2 : Int32) (h1 : e1 = f a) (h2 : ((b = a) ∧ e2 = e1) ∨ (¬ (b = a) ∧ e2 = e1 + f b)) : ∃ dd : List Int32, dd.Nodup ∧ e2 = own_sum f dd ∧ ∀ x, x ∈ dd ↔ (x = a ∨ x = b) := by
  obtain ⟨dd, hd, he, hm⟩ := own_dd1 f a e1 h1
  rcases h2 with ⟨q, g⟩ | ⟨q, g⟩
  · refine ⟨dd, hd, by rw [g, he], fun x => ?_⟩
    rw [hm]
    constructor
    · intro h; simp [h]
    · intro h; rcases h with h | h
      · simp [h]
      · rw [h]; exact q
  · refine ⟨b :: dd, List.nodup_cons.mpr ⟨fun w => q ((hm _).mp w), hd⟩, ?_, fun x => ?_⟩
    · rw [g, he]; simp only [own_sum]; rw [Int32.add_comm]
    · rw [List.mem_cons, hm]
      constructor <;> (intro h; rcases h with h | h <;> simp [h])
theorem own_dd3 (f : Int32 → Int32) (a b c : Int32) (e1 e2 e3 : Int32) (h1 : e1 = f a) (h2 : ((b = a) ∧ e2 = e1) ∨ (¬ (b = a) ∧ e2 = e1 + f b)) (h3 : ((c = a ∨ c = b) ∧ e3 = e2) ∨ (¬ (c = a ∨ c = b) ∧ e3 = e2 + f c)) : ∃ dd : List Int32, dd.Nodup ∧ e3 = own_sum f dd ∧ ∀ x, x ∈ dd ↔ (x = a ∨ x = b ∨ x = c) := by
  obtain ⟨dd, hd, he, hm⟩ := own_dd2 f a b e1 e2 h1 h2
  rcases h3 with ⟨q, g⟩ | ⟨q, g⟩
  · refine ⟨dd, hd, by rw [g, he], fun x => ?_⟩
    rw [hm]
    constructor
    · intro h; rcases h with h | h <;> simp [h]
    · intro h; rcases h with h | h | h
      · simp [h]
      · simp [h]
      · rw [h]; exact q
  · refine ⟨c :: dd, List.nodup_cons.mpr ⟨fun w => q ((hm _).mp w), hd⟩, ?_, fun x => ?_⟩
    · rw [g, he]; simp only [own_sum]; rw [Int32.add_comm]
    · rw [List.mem_cons, hm]
      constructor <;> (intro h; rcases h with h | h | h <;> simp [h])
theorem own_dd4 (f : Int32 → Int32) (a b c d : Int32) (e1 e2 e3 e4 : Int32) (h1 : e1 = f a) (h2 : ((b = a) ∧ e2 = e1) ∨ (¬ (b = a) ∧ e2 = e1 + f b)) (h3 : ((c = a ∨ c = b) ∧ e3 = e2) ∨ (¬ (c = a ∨ c = b) ∧ e3 = e2 + f c)) (h4 : ((d = a ∨ d = b ∨ d = c) ∧ e4 = e3) ∨ (¬ (d = a ∨ d = b ∨ d = c) ∧ e4 = e3 + f d)) : ∃ dd : List Int32, dd.Nodup ∧ e4 = own_sum f dd ∧ ∀ x, x ∈ dd ↔ (x = a ∨ x = b ∨ x = c ∨ x = d) := by
  obtain ⟨dd, hd, he, hm⟩ := own_dd3 f a b c e1 e2 e3 h1 h2 h3
  rcases h4 with ⟨q, g⟩ | ⟨q, g⟩
  · refine ⟨dd, hd, by rw [g, he], fun x => ?_⟩
    rw [hm]
    constructor
    · intro h; rcases h with h | h | h <;> simp [h]
    · intro h; rcases h with h | h | h | h
      · simp [h]
      · simp [h]
      · simp [h]
      · rw [h]; exact q
  · refine ⟨d :: dd, List.nodup_cons.mpr ⟨fun w => q ((hm _).mp w), hd⟩, ?_, fun x => ?_⟩
    · rw [g, he]; simp only [own_sum]; rw [Int32.add_comm]
    · rw [List.mem_cons, hm]
      constructor <;> (intro h; rcases h with h | h | h | h <;> simp [h])
theorem own_n4 (k : Int32) : ((k &&& (3 : Int32)) + (1 : Int32)) = 1 ∨ ((k &&& (3 : Int32)) + (1 : Int32)) = 2 ∨ ((k &&& (3 : Int32)) + (1 : Int32)) = 3 ∨ ((k &&& (3 : Int32)) + (1 : Int32)) = 4 := by
  have e1 := c_mask k (3 : Int32) 2 (by decide) (by decide)
  have e2 := c_iadd (k &&& (3 : Int32)) 1
  have r2 := rng32 ((k &&& (3 : Int32)) + 1)
  have l0 : (0 : Int32).toInt = 0 := by decide
  have l1 : (1 : Int32).toInt = 1 := by decide
  have l2 : (2 : Int32).toInt = 2 := by decide
  have l3 : (3 : Int32).toInt = 3 := by decide
  have l4 : (4 : Int32).toInt = 4 := by decide
  have l5 : (5 : Int32).toInt = 5 := by decide
  simp only [← Int32.toInt_inj, l0, l1, l2, l3, l4] at *
  omega
theorem own_pre_vs (xs : List Int32) (h : xs.length ≤ 4) : own_pre xs (own_vs xs) := fun i hi => by
  unfold own_vs
  rw [List.getD_eq_getElem?_getD, List.getElem?_append_left (by simpa using hi)]
  simp [List.getD_eq_getElem?_getD, hi]
theorem own_z4 {Z : State} {h : Heap} {t : Addr} {k : ClassId} {xs : List Int32} {vs : List Value} (V : Arv Z h t k .char (own_z xs) vs (.int 0)) (hl : xs.length ≤ 4) : Arv Z h t k .char (4 : Int32) vs (.int 0) := by
  unfold own_z at V; rw [if_pos hl] at V; exact V
theorem ef_0 (m : MethodId) (i1 : Int32) (i2 : Int32) (i3 : Int32) (i4 : Int32) (i5 : Int32) : entryFrame m #[(.int i1), (.int i2), (.int i3), (.int i4), (.int i5)] maxLocals = mkF m 0 #[iv i1, iv i2, iv i3, iv i4, iv i5, .unset, .unset, .unset, .unset, .unset, .unset, .unset, .unset, .unset, .unset, .unset, .unset] [] := by first | (simp [entryFrame, mkF, argsToLocals, Value.category, maxLocals]; done) | rfl
def Q0 (Z : State) (i1 : Int32) (i2 : Int32) (i3 : Int32) (i4 : Int32) (i5 : Int32) (h0 : Heap) (n0 : Nat) (v : Option Value) (h : Heap) (L : List Loc) : Prop := v = some (.int 1) ∧ Fr n0 L
theorem pd_3 : parseMethodDescriptor "(C)V" = some ⟨[.char], none⟩ := by decide +kernel
theorem pd_4 : parseMethodDescriptor "(IIIIIIZ)I" = some ⟨[.int, .int, .int, .int, .int, .int, .boolean], some .int⟩ := by decide +kernel
theorem pd_5 : parseMethodDescriptor "()I" = some ⟨[], some .int⟩ := by decide +kernel
theorem pd_6 : parseMethodDescriptor "(C)Lcom/example/bitstrata/bitstrata/Container;" = some ⟨[.char], some (.object "com/example/bitstrata/bitstrata/Container")⟩ := by decide +kernel
set_option maxRecDepth 65536 in
set_option maxHeartbeats 40000000 in
theorem rm0 (l : Launch) (Z : State) (a0 : Array Value) (hw : ∀ d ∈ tables_1, d.before a0 Z = true) (ws : List Jvm.Cond) (i1 : Int32) (i2 : Int32) (i3 : Int32) (i4 : Int32) (i5 : Int32) (h0 : Heap) (n0 : Nat) (Z0 : n0 ≤ h0.size)  :
    MetFree l x (head1 (Jvm.Cond.code x code maxLocals ret :: ws) room_1) (fun a U => a = #[(.int i1), (.int i2), (.int i3), (.int i4), (.int i5)] ∧ Z.Warmed39 U.vm ∧ U.heap = h0) (fun _ _ _ _ _ => True) (fun _ U o U' => ∃ v L, o = .returned v ∧ Q0 Z i1 i2 i3 i4 i5 h0 n0 v U'.heap L ∧ FrameEnd U o U' L room_1.cells room_1.slots) := by
  refine MetFree.of_bodySF (plainFor_of_name pn_2) hisR ?_
  intro p e s m args below meth c s₁ Bd hml0 hP hK
  obtain ⟨rfl, hZ, hh⟩ := hP
  have hx := Bd.exec
  have hby := Bd.bytes
  have hml : c.maxLocals = 17 := hml0
  have hown : s.vm.findClass "com/example/bitstrata/bitstrata/ArrayContainerRunCountPinLaw" = some m.cls := findClass_of_methodNamed Bd.named
  have hnm := (name_of_methodNamed Bd.named Bd.method).1
  have X0 : Stand p l e room_1 s m #[(.int i1), (.int i2), (.int i3), (.int i4), (.int i5)] below meth c s₁ [] 0 0 := Stand.of_body Bd
  have e0 : s₁.heap = h0 := by rw [← hh, Bd.state]; rfl
  have N0 := Fr.nil n0
  have pre0 : ∀ tg, Steps p.tables e below (s₁.setTop (mkF m 0 #[iv i1, iv i2, iv i3, iv i4, iv i5, .unset, .unset, .unset, .unset, .unset, .unset, .unset, .unset, .unset, .unset, .unset, .unset] [])) tg → Steps p.tables e below (s₁.setTop (entryFrame m #[(.int i1), (.int i2), (.int i3), (.int i4), (.int i5)] maxLocals)) tg := fun tg k => castTop (ef_0 m i1 i2 i3 i4 i5) k
  have pre1 : ∀ tg, own_S p e below s₁ m 24 #[iv i1, iv i2, iv i3, iv i4, iv i5, iv (i1.toUInt32.toUInt16.toUInt32.toInt32), iv (i2.toUInt32.toUInt16.toUInt32.toInt32), iv (i3.toUInt32.toUInt16.toUInt32.toInt32), iv (i4.toUInt32.toUInt16.toUInt32.toInt32), iv ((i5 &&& (3 : Int32)) + (1 : Int32)), .unset, .unset, .unset, .unset, .unset, .unset, .unset] [] tg → Steps p.tables e below (s₁.setTop (entryFrame m #[(.int i1), (.int i2), (.int i3), (.int i4), (.int i5)] maxLocals)) tg := fun tg k => pre0 tg (by
    show own_S p e below s₁ m 0 #[iv i1, iv i2, iv i3, iv i4, iv i5, .unset, .unset, .unset, .unset, .unset, .unset, .unset, .unset, .unset, .unset, .unset, .unset] [] _
    refine XS.iloadN X0.here hx rfl (hb hby at_0) rfl ?_
    refine XS.i2c X0.here hx rfl (hb hby at_1) rfl ?_
    refine XS.istore X0.here hx rfl (hb hby at_2) rfl (l' := #[iv i1, iv i2, iv i3, iv i4, iv i5, iv (i1.toUInt32.toUInt16.toUInt32.toInt32), .unset, .unset, .unset, .unset, .unset, .unset, .unset, .unset, .unset, .unset, .unset]) rfl ?_
    show own_S p e below s₁ m 4 #[iv i1, iv i2, iv i3, iv i4, iv i5, iv (i1.toUInt32.toUInt16.toUInt32.toInt32), .unset, .unset, .unset, .unset, .unset, .unset, .unset, .unset, .unset, .unset, .unset] [] _
    refine XS.iloadN X0.here hx rfl (hb hby at_4) rfl ?_
    refine XS.i2c X0.here hx rfl (hb hby at_5) rfl ?_
    refine XS.istore X0.here hx rfl (hb hby at_6) rfl (l' := #[iv i1, iv i2, iv i3, iv i4, iv i5, iv (i1.toUInt32.toUInt16.toUInt32.toInt32), iv (i2.toUInt32.toUInt16.toUInt32.toInt32), .unset, .unset, .unset, .unset, .unset, .unset, .unset, .unset, .unset, .unset]) rfl ?_
    show own_S p e below s₁ m 8 #[iv i1, iv i2, iv i3, iv i4, iv i5, iv (i1.toUInt32.toUInt16.toUInt32.toInt32), iv (i2.toUInt32.toUInt16.toUInt32.toInt32), .unset, .unset, .unset, .unset, .unset, .unset, .unset, .unset, .unset, .unset] [] _
    refine XS.iloadN X0.here hx rfl (hb hby at_8) rfl ?_
    refine XS.i2c X0.here hx rfl (hb hby at_9) rfl ?_
    refine XS.istore X0.here hx rfl (hb hby at_10) rfl (l' := #[iv i1, iv i2, iv i3, iv i4, iv i5, iv (i1.toUInt32.toUInt16.toUInt32.toInt32), iv (i2.toUInt32.toUInt16.toUInt32.toInt32), iv (i3.toUInt32.toUInt16.toUInt32.toInt32), .unset, .unset, .unset, .unset, .unset, .unset, .unset, .unset, .unset]) rfl ?_
    show own_S p e below s₁ m 12 #[iv i1, iv i2, iv i3, iv i4, iv i5, iv (i1.toUInt32.toUInt16.toUInt32.toInt32), iv (i2.toUInt32.toUInt16.toUInt32.toInt32), iv (i3.toUInt32.toUInt16.toUInt32.toInt32), .unset, .unset, .unset, .unset, .unset, .unset, .unset, .unset, .unset] [] _
    refine XS.iloadN X0.here hx rfl (hb hby at_12) rfl ?_
    refine XS.i2c X0.here hx rfl (hb hby at_13) rfl ?_
    refine XS.istore X0.here hx rfl (hb hby at_14) rfl (l' := #[iv i1, iv i2, iv i3, iv i4, iv i5, iv (i1.toUInt32.toUInt16.toUInt32.toInt32), iv (i2.toUInt32.toUInt16.toUInt32.toInt32), iv (i3.toUInt32.toUInt16.toUInt32.toInt32), iv (i4.toUInt32.toUInt16.toUInt32.toInt32), .unset, .unset, .unset, .unset, .unset, .unset, .unset, .unset]) rfl ?_
    show own_S p e below s₁ m 16 #[iv i1, iv i2, iv i3, iv i4, iv i5, iv (i1.toUInt32.toUInt16.toUInt32.toInt32), iv (i2.toUInt32.toUInt16.toUInt32.toInt32), iv (i3.toUInt32.toUInt16.toUInt32.toInt32), iv (i4.toUInt32.toUInt16.toUInt32.toInt32), .unset, .unset, .unset, .unset, .unset, .unset, .unset, .unset] [] _
    refine XS.iload X0.here hx rfl (hb hby at_16) rfl ?_
    refine XS.iconst X0.here hx rfl (hb hby at_18) ?_
    refine XS.iand X0.here hx rfl (hb hby at_19) rfl ?_
    show own_S p e below s₁ m 20 #[iv i1, iv i2, iv i3, iv i4, iv i5, iv (i1.toUInt32.toUInt16.toUInt32.toInt32), iv (i2.toUInt32.toUInt16.toUInt32.toInt32), iv (i3.toUInt32.toUInt16.toUInt32.toInt32), iv (i4.toUInt32.toUInt16.toUInt32.toInt32), .unset, .unset, .unset, .unset, .unset, .unset, .unset, .unset] [(.int (i5 &&& (3 : Int32)))] _
    refine XS.iconst X0.here hx rfl (hb hby at_20) ?_
    refine XS.iadd X0.here hx rfl (hb hby at_21) rfl ?_
    refine XS.istore X0.here hx rfl (hb hby at_22) rfl (l' := #[iv i1, iv i2, iv i3, iv i4, iv i5, iv (i1.toUInt32.toUInt16.toUInt32.toInt32), iv (i2.toUInt32.toUInt16.toUInt32.toInt32), iv (i3.toUInt32.toUInt16.toUInt32.toInt32), iv (i4.toUInt32.toUInt16.toUInt32.toInt32), iv ((i5 &&& (3 : Int32)) + (1 : Int32)), .unset, .unset, .unset, .unset, .unset, .unset, .unset]) rfl ?_
    exact k)
  obtain ⟨ca, e_ca⟩ : ∃ z, z = (i1.toUInt32.toUInt16.toUInt32.toInt32) := ⟨_, rfl⟩
  have hk_ca : nar .char ca = ca := by rw [e_ca]; exact own_nn _
  rw [← e_ca] at pre1
  obtain ⟨cb, e_cb⟩ : ∃ z, z = (i2.toUInt32.toUInt16.toUInt32.toInt32) := ⟨_, rfl⟩
  have hk_cb : nar .char cb = cb := by rw [e_cb]; exact own_nn _
  rw [← e_cb] at pre1
  obtain ⟨cc, e_cc⟩ : ∃ z, z = (i3.toUInt32.toUInt16.toUInt32.toInt32) := ⟨_, rfl⟩
  have hk_cc : nar .char cc = cc := by rw [e_cc]; exact own_nn _
  rw [← e_cc] at pre1
  obtain ⟨cd, e_cd⟩ : ∃ z, z = (i4.toUInt32.toUInt16.toUInt32.toInt32) := ⟨_, rfl⟩
  have hk_cd : nar .char cd = cd := by rw [e_cd]; exact own_nn _
  rw [← e_cd] at pre1
  have hn0 := own_n4 i5
  obtain ⟨nv, env⟩ : ∃ z, z = ((i5 &&& (3 : Int32)) + (1 : Int32)) := ⟨_, rfl⟩
  rw [← env] at hn0 pre1
  obtain ⟨dr, h_dr, prej2⟩ : ∃ dr : Int32, (dr = 0 ∨ dr = 1) ∧ ∀ tg, own_S p e below s₁ m 36 #[iv i1, iv i2, iv i3, iv i4, iv i5, iv ca, iv cb, iv cc, iv cd, iv nv, .unset, .unset, .unset, .unset, .unset, .unset, .unset] [(.int dr)] tg → Steps p.tables e below (s₁.setTop (entryFrame m #[(.int i1), (.int i2), (.int i3), (.int i4), (.int i5)] maxLocals)) tg := by
    have pre4 : ∀ tg, own_S p e below s₁ m 28 #[iv i1, iv i2, iv i3, iv i4, iv i5, iv ca, iv cb, iv cc, iv cd, iv nv, .unset, .unset, .unset, .unset, .unset, .unset, .unset] [(.int (i5 &&& (4 : Int32)))] tg → Steps p.tables e below (s₁.setTop (entryFrame m #[(.int i1), (.int i2), (.int i3), (.int i4), (.int i5)] maxLocals)) tg := fun tg k => pre1 tg (by
      show own_S p e below s₁ m 24 #[iv i1, iv i2, iv i3, iv i4, iv i5, iv ca, iv cb, iv cc, iv cd, iv nv, .unset, .unset, .unset, .unset, .unset, .unset, .unset] [] _
      refine XS.iload X0.here hx rfl (hb hby at_24) rfl ?_
      refine XS.iconst X0.here hx rfl (hb hby at_26) ?_
      refine XS.iand X0.here hx rfl (hb hby at_27) rfl ?_
      exact k)
    by_cases hc28_3 : (i5 &&& (4 : Int32)) = (0 : Int32)
    ·  -- pc 28 yes
      have pre5 : ∀ tg, own_S p e below s₁ m 36 #[iv i1, iv i2, iv i3, iv i4, iv i5, iv ca, iv cb, iv cc, iv cd, iv nv, .unset, .unset, .unset, .unset, .unset, .unset, .unset] [(.int (0 : Int32))] tg → Steps p.tables e below (s₁.setTop (entryFrame m #[(.int i1), (.int i2), (.int i3), (.int i4), (.int i5)] maxLocals)) tg := fun tg k => pre4 tg (by
        show own_S p e below s₁ m 28 #[iv i1, iv i2, iv i3, iv i4, iv i5, iv ca, iv cb, iv cc, iv cd, iv nv, .unset, .unset, .unset, .unset, .unset, .unset, .unset] [(.int (i5 &&& (4 : Int32)))] _
        refine XS.ifYes X0.here hx rfl (pc0 := 28) (pc' := 35) rfl (hb hby at_28) rfl ((if0 _ _).trans (teq hc28_3).1) (by decide) (by decide) ?_
        refine XS.iconst X0.here hx rfl (hb hby at_35) ?_
        exact k)
      exact ⟨(0 : Int32), (Or.inl rfl), pre5⟩
    ·  -- pc 28 no
      have pre6 : ∀ tg, own_S p e below s₁ m 36 #[iv i1, iv i2, iv i3, iv i4, iv i5, iv ca, iv cb, iv cc, iv cd, iv nv, .unset, .unset, .unset, .unset, .unset, .unset, .unset] [(.int (1 : Int32))] tg → Steps p.tables e below (s₁.setTop (entryFrame m #[(.int i1), (.int i2), (.int i3), (.int i4), (.int i5)] maxLocals)) tg := fun tg k => pre4 tg (by
        show own_S p e below s₁ m 28 #[iv i1, iv i2, iv i3, iv i4, iv i5, iv ca, iv cb, iv cc, iv cd, iv nv, .unset, .unset, .unset, .unset, .unset, .unset, .unset] [(.int (i5 &&& (4 : Int32)))] _
        refine XS.ifNo X0.here hx rfl (hb hby at_28) rfl ((if0 _ _).trans (feq hc28_3).1) ?_
        refine XS.iconst X0.here hx rfl (hb hby at_31) ?_
        refine XS.goto X0.here hx rfl (pc0 := 32) (pc' := 36) rfl (hb hby at_32) (by decide) (by decide) ?_
        exact k)
      exact ⟨(1 : Int32), (Or.inr rfl), pre6⟩
  obtain ⟨T7, h7, X7, e7, E7, A7, D7, -, st7⟩ := newO X0 hx hZ hown (hw _ (List.mem_of_getElem? (i := 0) rfl)) (hw _ (List.mem_of_getElem? (i := 1) rfl)) (hw _ (List.mem_of_getElem? (i := 2) rfl)) e0 (g := (mkF m 38 #[iv i1, iv i2, iv i3, iv i4, iv i5, iv ca, iv cb, iv cc, iv cd, iv nv, iv dr, .unset, .unset, .unset, .unset, .unset, .unset] [])) rfl (hb hby at_38) (by decide) (by decide)
  obtain ⟨b7, g7⟩ : ∃ z, z = h0.size := ⟨_, rfl⟩
  rw [← g7] at A7 D7 st7
  have g_b7 : n0 ≤ b7 := Nat.le_trans Z0 (Nat.le_of_eq g7.symm)
  have sz_b7 : h0.size ≤ b7 := Nat.le_trans ((Keep.refl h0 [])).1 (Nat.le_of_eq g7.symm)
  have F_values_b7 : Fld Z h7 b7 "com/example/bitstrata/bitstrata/ArrayContainer" "values" "[C" .null := D7 (Or.inl (hw _ (List.mem_of_getElem? (i := 11) rfl))) (ty := (.array .char)) (by decide)
  have F_cardinality_b7 : Fld Z h7 b7 "com/example/bitstrata/bitstrata/ArrayContainer" "cardinality" "I" (.int (0 : Int32)) := D7 (Or.inl (hw _ (List.mem_of_getElem? (i := 13) rfl))) (ty := .int) (by decide)
  have Zs9 : n0 ≤ h7.size := (Nat.le_trans Z0 E7.1)
  obtain ⟨_, _, ⟨T8, L8, k8, n8⟩, -, X8, ⟨Lc8, hQ8, l8, y8, z8⟩, st8⟩ := X7.specialBack hx (y := (⟨"com/example/bitstrata/bitstrata/ArrayContainer", "<init>", "(C)V"⟩ : MethodName)) rfl hown (mvT hZ (hw _ (List.mem_of_getElem? (i := 3) rfl))) (mvT hZ (hw _ (List.mem_of_getElem? (i := 4) rfl))) (mvT hZ (hw _ (List.mem_of_getElem? (i := 5) rfl))) (by decide) (backOf (W := 1) (rmI l Z a0 hw [] b7 ca h7 n0 Zs9 A7 g_b7 F_values_b7 F_cardinality_b7 hk_ca) hZ (hw _ (List.mem_of_getElem? (i := 5) rfl)) (hw _ (List.mem_of_getElem? (i := 2) rfl)) (by decide) (by decide)) (g := (mkF m 44 #[iv i1, iv i2, iv i3, iv i4, iv i5, iv ca, iv cb, iv cc, iv cd, iv nv, iv dr, .unset, .unset, .unset, .unset, .unset, .unset] [(.int ca), (.ref b7), (.ref b7)])) rfl (by rw [hml]; rfl) (Steps.refl _) (a := b7) (argsL := [(.int ca)]) (rest := [(.ref b7)]) (lenOf pd_3 rfl) rfl (by show 2 * 0 + _ ≤ _; exact Nat.le_of_eq rfl) (hb hby at_44) (fun _ _ => ⟨rfl, e7, (by decide : 1 + 1 ≤ _), (by decide : 2 + 4 ≤ _)⟩)
  dsimp only [Pt.U, Pt.locs, Pt.cells, Pt.slots] at X8 l8 y8 z8 st8 hQ8
  subst l8 y8 z8
  obtain ⟨t8, k_8, rfl, N8q, K8, E8c, Fv8, Fc8, V_t8, g_t8, sz_t8⟩ := hQ8
  have N8 := Fr.app N0 N8q
  have ne_t8 : t8 ≠ b7 := Nat.ne_of_gt (Nat.lt_of_lt_of_le A7.lt sz_t8)
  have hlen0 : [ca].length = 1 := rfl
  have Fcb8 : Fld Z T8.heap b7 "com/example/bitstrata/bitstrata/ArrayContainer" "cardinality" "I" (.int (Int32.ofNat [ca].length)) := Fc8
  have Vb8 : Arv Z T8.heap t8 k_8 .char (own_z [ca]) (own_vs [ca]) (.int 0) := V_t8
  have hm8 : ∀ x, x ∈ [ca] ↔ x = ca := fun x => by simp
  have pre10 : ∀ tg, own_S p e below T8 m 49 #[iv i1, iv i2, iv i3, iv i4, iv i5, iv ca, iv cb, iv cc, iv cd, iv nv, iv dr, rv b7, .unset, .unset, .unset, .unset, .unset] [] tg → Steps p.tables e below (s₁.setTop (entryFrame m #[(.int i1), (.int i2), (.int i3), (.int i4), (.int i5)] maxLocals)) tg := fun tg k => prej2 tg (by
    show own_S p e below s₁ m 36 #[iv i1, iv i2, iv i3, iv i4, iv i5, iv ca, iv cb, iv cc, iv cd, iv nv, .unset, .unset, .unset, .unset, .unset, .unset, .unset] [(.int dr)] _
    refine XS.istore X0.here hx rfl (hb hby at_36) rfl (l' := #[iv i1, iv i2, iv i3, iv i4, iv i5, iv ca, iv cb, iv cc, iv cd, iv nv, iv dr, .unset, .unset, .unset, .unset, .unset, .unset]) rfl ?_
    refine st7 _ ?_
    refine XS.dup X7.here hx rfl (hb hby at_41) rfl rfl ?_
    show own_S p e below T7 m 42 #[iv i1, iv i2, iv i3, iv i4, iv i5, iv ca, iv cb, iv cc, iv cd, iv nv, iv dr, .unset, .unset, .unset, .unset, .unset, .unset] [(.ref b7), (.ref b7)] _
    refine XS.iload X7.here hx rfl (hb hby at_42) rfl ?_
    refine st8.trans ?_
    refine XS.astore X8.here hx rfl (hb hby at_47) rfl rfl (l' := #[iv i1, iv i2, iv i3, iv i4, iv i5, iv ca, iv cb, iv cc, iv cd, iv nv, iv dr, rv b7, .unset, .unset, .unset, .unset, .unset]) rfl ?_
    exact k)
  rcases hn0 with rfl | rfl | rfl | rfl <;> rcases h_dr with rfl | rfl
  ·  -- case
    have Zs12 : n0 ≤ T8.heap.size := (Nat.le_trans Zs9 K8.1)
    obtain ⟨_, _, ⟨T11, L11, k11, n11⟩, -, X11, ⟨Lc11, hQ11, l11, y11, z11⟩, st11⟩ := Jvm.LawKit.callS X8 hx (y := (⟨"com/example/bitstrata/bitstrata/ArrayContainerRunCountPinLaw", "starts", "(IIIIIIZ)I"⟩ : MethodName)) hown (mvT hZ (hw _ (List.mem_of_getElem? (i := 14) rfl))) (mvT hZ (hw _ (List.mem_of_getElem? (i := 15) rfl))) (mvT hZ (hw _ (List.mem_of_getElem? (i := 16) rfl))) (mvT hZ (hw _ (List.mem_of_getElem? (i := 17) rfl))) (by decide) (backOf (W := 0) (rmSt l Z a0 hw [] ca ca cb cc cd (1 : Int32) (0 : Int32) T8.heap n0 Zs12 ) hZ (hw _ (List.mem_of_getElem? (i := 17) rfl)) (hw _ (List.mem_of_getElem? (i := 16) rfl)) (by decide) (by decide)) (g := (mkF m 146 #[iv i1, iv i2, iv i3, iv i4, iv i5, iv ca, iv cb, iv cc, iv cd, iv (1 : Int32), iv (0 : Int32), rv b7, iv ca, iv cb, iv cc, iv cd, .unset] [(.int (0 : Int32)), (.int (1 : Int32)), (.int cd), (.int cc), (.int cb), (.int ca), (.int ca)])) rfl (by rw [hml]; rfl) (argsL := [(.int ca), (.int ca), (.int cb), (.int cc), (.int cd), (.int (1 : Int32)), (.int (0 : Int32))]) (rest := []) (lenOf pd_4 rfl) rfl (by show 2 * 0 + _ ≤ _; exact Nat.le_of_eq rfl) (hb hby at_146) (fun _ _ => ⟨rfl, rfl, (by decide : 2 + 0 ≤ _), (by decide : 6 + 0 ≤ _)⟩)
    dsimp only [Pt.U, Pt.locs, Pt.cells, Pt.slots] at X11 l11 y11 z11 st11 hQ11
    subst l11 y11 z11
    obtain ⟨rfl, N11q, e11q⟩ := hQ11
    have N11 := Fr.app N8 N11q
    have e11 : T11.heap = T8.heap := e11q
    have pre13 : ∀ tg, own_S p e below T11 m 151 #[iv i1, iv i2, iv i3, iv i4, iv i5, iv ca, iv cb, iv cc, iv cd, iv (1 : Int32), iv (0 : Int32), rv b7, iv ca, iv cb, iv cc, iv cd, iv (own_st ca ca cb cc cd (1 : Int32) (0 : Int32))] [] tg → Steps p.tables e below (s₁.setTop (entryFrame m #[(.int i1), (.int i2), (.int i3), (.int i4), (.int i5)] maxLocals)) tg := fun tg k => pre10 tg (by
      show own_S p e below T8 m 49 #[iv i1, iv i2, iv i3, iv i4, iv i5, iv ca, iv cb, iv cc, iv cd, iv (1 : Int32), iv (0 : Int32), rv b7, .unset, .unset, .unset, .unset, .unset] [] _
      refine XS.iload X8.here hx rfl (hb hby at_49) rfl ?_
      refine XS.iconst X8.here hx rfl (hb hby at_51) ?_
      refine XS.icmpYes X8.here hx rfl (pc0 := 52) (pc' := 66) rfl (hb hby at_52) rfl (flt (by decide : ¬ ((1 : Int32) < (1 : Int32)))).2.2.2 (by decide) (by decide) ?_
      show own_S p e below T8 m 66 #[iv i1, iv i2, iv i3, iv i4, iv i5, iv ca, iv cb, iv cc, iv cd, iv (1 : Int32), iv (0 : Int32), rv b7, .unset, .unset, .unset, .unset, .unset] [] _
      refine XS.iload X8.here hx rfl (hb hby at_66) rfl ?_
      refine XS.iconst X8.here hx rfl (hb hby at_68) ?_
      refine XS.icmpYes X8.here hx rfl (pc0 := 69) (pc' := 83) rfl (hb hby at_69) rfl (flt (by decide : ¬ ((2 : Int32) < (1 : Int32)))).2.2.2 (by decide) (by decide) ?_
      show own_S p e below T8 m 83 #[iv i1, iv i2, iv i3, iv i4, iv i5, iv ca, iv cb, iv cc, iv cd, iv (1 : Int32), iv (0 : Int32), rv b7, .unset, .unset, .unset, .unset, .unset] [] _
      refine XS.iload X8.here hx rfl (hb hby at_83) rfl ?_
      refine XS.iconst X8.here hx rfl (hb hby at_85) ?_
      refine XS.icmpYes X8.here hx rfl (pc0 := 86) (pc' := 100) rfl (hb hby at_86) rfl (flt (by decide : ¬ ((3 : Int32) < (1 : Int32)))).2.2.2 (by decide) (by decide) ?_
      show own_S p e below T8 m 100 #[iv i1, iv i2, iv i3, iv i4, iv i5, iv ca, iv cb, iv cc, iv cd, iv (1 : Int32), iv (0 : Int32), rv b7, .unset, .unset, .unset, .unset, .unset] [] _
      refine XS.iload X8.here hx rfl (hb hby at_100) rfl ?_
      refine XS.ifYes X8.here hx rfl (pc0 := 102) (pc' := 116) rfl (hb hby at_102) rfl ((if0 _ _).trans (teq (by decide : (0 : Int32) = (0 : Int32))).1) (by decide) (by decide) ?_
      refine XS.iload X8.here hx rfl (hb hby at_116) rfl ?_
      show own_S p e below T8 m 118 #[iv i1, iv i2, iv i3, iv i4, iv i5, iv ca, iv cb, iv cc, iv cd, iv (1 : Int32), iv (0 : Int32), rv b7, .unset, .unset, .unset, .unset, .unset] [(.int ca)] _
      refine XS.istore X8.here hx rfl (hb hby at_118) rfl (l' := #[iv i1, iv i2, iv i3, iv i4, iv i5, iv ca, iv cb, iv cc, iv cd, iv (1 : Int32), iv (0 : Int32), rv b7, iv ca, .unset, .unset, .unset, .unset]) rfl ?_
      refine XS.iload X8.here hx rfl (hb hby at_120) rfl ?_
      refine XS.istore X8.here hx rfl (hb hby at_122) rfl (l' := #[iv i1, iv i2, iv i3, iv i4, iv i5, iv ca, iv cb, iv cc, iv cd, iv (1 : Int32), iv (0 : Int32), rv b7, iv ca, iv cb, .unset, .unset, .unset]) rfl ?_
      show own_S p e below T8 m 124 #[iv i1, iv i2, iv i3, iv i4, iv i5, iv ca, iv cb, iv cc, iv cd, iv (1 : Int32), iv (0 : Int32), rv b7, iv ca, iv cb, .unset, .unset, .unset] [] _
      refine XS.iload X8.here hx rfl (hb hby at_124) rfl ?_
      refine XS.istore X8.here hx rfl (hb hby at_126) rfl (l' := #[iv i1, iv i2, iv i3, iv i4, iv i5, iv ca, iv cb, iv cc, iv cd, iv (1 : Int32), iv (0 : Int32), rv b7, iv ca, iv cb, iv cc, .unset, .unset]) rfl ?_
      refine XS.iload X8.here hx rfl (hb hby at_128) rfl ?_
      show own_S p e below T8 m 130 #[iv i1, iv i2, iv i3, iv i4, iv i5, iv ca, iv cb, iv cc, iv cd, iv (1 : Int32), iv (0 : Int32), rv b7, iv ca, iv cb, iv cc, .unset, .unset] [(.int cd)] _
      refine XS.istore X8.here hx rfl (hb hby at_130) rfl (l' := #[iv i1, iv i2, iv i3, iv i4, iv i5, iv ca, iv cb, iv cc, iv cd, iv (1 : Int32), iv (0 : Int32), rv b7, iv ca, iv cb, iv cc, iv cd, .unset]) rfl ?_
      refine XS.iload X8.here hx rfl (hb hby at_132) rfl ?_
      refine XS.iload X8.here hx rfl (hb hby at_134) rfl ?_
      show own_S p e below T8 m 136 #[iv i1, iv i2, iv i3, iv i4, iv i5, iv ca, iv cb, iv cc, iv cd, iv (1 : Int32), iv (0 : Int32), rv b7, iv ca, iv cb, iv cc, iv cd, .unset] [(.int ca), (.int ca)] _
      refine XS.iload X8.here hx rfl (hb hby at_136) rfl ?_
      refine XS.iload X8.here hx rfl (hb hby at_138) rfl ?_
      refine XS.iload X8.here hx rfl (hb hby at_140) rfl ?_
      show own_S p e below T8 m 142 #[iv i1, iv i2, iv i3, iv i4, iv i5, iv ca, iv cb, iv cc, iv cd, iv (1 : Int32), iv (0 : Int32), rv b7, iv ca, iv cb, iv cc, iv cd, .unset] [(.int cd), (.int cc), (.int cb), (.int ca), (.int ca)] _
      refine XS.iload X8.here hx rfl (hb hby at_142) rfl ?_
      refine XS.iload X8.here hx rfl (hb hby at_144) rfl ?_
      refine st11 _ ?_
      show own_S p e below T11 m 149 #[iv i1, iv i2, iv i3, iv i4, iv i5, iv ca, iv cb, iv cc, iv cd, iv (1 : Int32), iv (0 : Int32), rv b7, iv ca, iv cb, iv cc, iv cd, .unset] [(.int (own_st ca ca cb cc cd (1 : Int32) (0 : Int32)))] _
      refine XS.istore X11.here hx rfl (hb hby at_149) rfl (l' := #[iv i1, iv i2, iv i3, iv i4, iv i5, iv ca, iv cb, iv cc, iv cd, iv (1 : Int32), iv (0 : Int32), rv b7, iv ca, iv cb, iv cc, iv cd, iv (own_st ca ca cb cc cd (1 : Int32) (0 : Int32))]) rfl ?_
      exact k)
    obtain ⟨e1, he1⟩ : ∃ z, z = own_st ca ca cb cc cd (1 : Int32) (0 : Int32) := ⟨_, rfl⟩
    rw [← he1] at pre13
    have pre14 : ∀ tg, own_S p e below T11 m 277 #[iv i1, iv i2, iv i3, iv i4, iv i5, iv ca, iv cb, iv cc, iv cd, iv (1 : Int32), iv (0 : Int32), rv b7, iv ca, iv cb, iv cc, iv cd, iv e1] [] tg → Steps p.tables e below (s₁.setTop (entryFrame m #[(.int i1), (.int i2), (.int i3), (.int i4), (.int i5)] maxLocals)) tg := fun tg k => pre13 tg (by
      show own_S p e below T11 m 151 #[iv i1, iv i2, iv i3, iv i4, iv i5, iv ca, iv cb, iv cc, iv cd, iv (1 : Int32), iv (0 : Int32), rv b7, iv ca, iv cb, iv cc, iv cd, iv e1] [] _
      refine XS.iload X11.here hx rfl (hb hby at_151) rfl ?_
      refine XS.iconst X11.here hx rfl (hb hby at_153) ?_
      refine XS.icmpYes X11.here hx rfl (pc0 := 154) (pc' := 186) rfl (hb hby at_154) rfl (flt (by decide : ¬ ((1 : Int32) < (1 : Int32)))).2.2.2 (by decide) (by decide) ?_
      show own_S p e below T11 m 186 #[iv i1, iv i2, iv i3, iv i4, iv i5, iv ca, iv cb, iv cc, iv cd, iv (1 : Int32), iv (0 : Int32), rv b7, iv ca, iv cb, iv cc, iv cd, iv e1] [] _
      refine XS.iload X11.here hx rfl (hb hby at_186) rfl ?_
      refine XS.iconst X11.here hx rfl (hb hby at_188) ?_
      refine XS.icmpYes X11.here hx rfl (pc0 := 189) (pc' := 228) rfl (hb hby at_189) rfl (flt (by decide : ¬ ((2 : Int32) < (1 : Int32)))).2.2.2 (by decide) (by decide) ?_
      show own_S p e below T11 m 228 #[iv i1, iv i2, iv i3, iv i4, iv i5, iv ca, iv cb, iv cc, iv cd, iv (1 : Int32), iv (0 : Int32), rv b7, iv ca, iv cb, iv cc, iv cd, iv e1] [] _
      refine XS.iload X11.here hx rfl (hb hby at_228) rfl ?_
      refine XS.iconst X11.here hx rfl (hb hby at_230) ?_
      refine XS.icmpYes X11.here hx rfl (pc0 := 231) (pc' := 277) rfl (hb hby at_231) rfl (flt (by decide : ¬ ((3 : Int32) < (1 : Int32)))).2.2.2 (by decide) (by decide) ?_
      exact k)
    obtain ⟨dd, hdd, hsum, hmd⟩ := own_dd1 (fun x => own_st x ca cb cc cd (1 : Int32) (0 : Int32)) ca e1 he1
    have hset : ∀ x, x ∈ [ca] ↔ own_set ca cb cc cd (1 : Int32) (0 : Int32) x := fun x => by
      rw [hm8]
      simp only [own_set, (by decide : ¬ (1 : Int32) < 1), (by decide : ¬ (2 : Int32) < 1), (by decide : ¬ (3 : Int32) < 1), true_and, false_and, or_false, false_or, (by decide : (0 : Int32) = 0), and_true, and_false]
      try (by_cases q : x = ca <;> simp [q, or_assoc])
    have hfin : own_runs [ca] = e1 := by
      rw [hsum]
      refine own_plain (trivial : own_srt [ca]) (own_rng_of (by intro x hx; cases List.mem_singleton.mp hx; exact hk_ca : own_chs [ca])) hdd (fun x hx => (hmd x).mpr ?_) (fun x => own_st_f hset x)
      have := (hset x).mp hx
      simp only [own_set, (by decide : ¬ (1 : Int32) < 1), (by decide : ¬ (2 : Int32) < 1), (by decide : ¬ (3 : Int32) < 1), true_and, false_and, or_false, false_or] at this
      rcases this with this | this
      · simp [this.1]
      · exact absurd this.2 id
    obtain ⟨cq15, kq15, q15a, q15b, q15c⟩ := isOf hZ e11 E8c
    obtain ⟨_, _, ⟨T15, L15, k15, n15⟩, -, X15, ⟨Lc15, hQ15, l15, y15, z15⟩, st15⟩ := X11.interfaceBack hx (xi := (⟨"com/example/bitstrata/bitstrata/Container", "runCount", "()I"⟩ : MethodName)) (y := (⟨"com/example/bitstrata/bitstrata/ArrayContainer", "runCount", "()I"⟩ : MethodName)) hown (mvT hZ (hw _ (List.mem_of_getElem? (i := 21) rfl))) (mvT hZ (hw _ (List.mem_of_getElem? (i := 22) rfl))) (mvT hZ (hw _ (List.mem_of_getElem? (i := 23) rfl))) (mvT hZ (hw _ (List.mem_of_getElem? (i := 24) rfl))) (mvT hZ (hw _ (List.mem_of_getElem? (i := 25) rfl))) (mvT hZ (hw _ (List.mem_of_getElem? (i := 26) rfl))) (mvT hZ (hw _ (List.mem_of_getElem? (i := 27) rfl))) (mvT hZ (hw _ (List.mem_of_getElem? (i := 28) rfl))) (by decide) (backOf (W := 0) (rmRun l Z a0 hw [] b7 t8 k_8 [ca] (own_vs [ca]) T8.heap n0 Zs12 Fv8 Fcb8 (own_z4 Vb8 (by omega)) (by omega) (own_pre_vs [ca] (by omega))) hZ (hw _ (List.mem_of_getElem? (i := 29) rfl)) (hw _ (List.mem_of_getElem? (i := 2) rfl)) (by decide) (by decide)) q15a q15b q15c (g := (mkF m 279 #[iv i1, iv i2, iv i3, iv i4, iv i5, iv ca, iv cb, iv cc, iv cd, iv (1 : Int32), iv (0 : Int32), rv b7, iv ca, iv cb, iv cc, iv cd, iv e1] [(.ref b7)])) rfl (by rw [hml]; rfl) (Steps.refl _) (argsL := []) (rest := []) (lenOf pd_5 rfl) rfl (by show 2 * 0 + _ ≤ _; exact Nat.le_of_eq rfl) (hb hby at_279) (fun _ _ => ⟨rfl, e11, (by decide : 2 + 0 ≤ _), (by decide : 6 + 0 ≤ _)⟩)
    dsimp only [Pt.U, Pt.locs, Pt.cells, Pt.slots] at X15 l15 y15 z15 st15 hQ15
    subst l15 y15 z15
    obtain ⟨rfl, N15q, e15q⟩ := hQ15
    have N15 := Fr.app N11 N15q
    have e15 : T15.heap = T8.heap := e15q
    have pre16 : ∀ tg, own_S p e below T15 m 294 #[iv i1, iv i2, iv i3, iv i4, iv i5, iv ca, iv cb, iv cc, iv cd, iv (1 : Int32), iv (0 : Int32), rv b7, iv ca, iv cb, iv cc, iv cd, iv e1] [(.int (1 : Int32))] tg → Steps p.tables e below (s₁.setTop (entryFrame m #[(.int i1), (.int i2), (.int i3), (.int i4), (.int i5)] maxLocals)) tg := fun tg k => pre14 tg (by
      show own_S p e below T11 m 277 #[iv i1, iv i2, iv i3, iv i4, iv i5, iv ca, iv cb, iv cc, iv cd, iv (1 : Int32), iv (0 : Int32), rv b7, iv ca, iv cb, iv cc, iv cd, iv e1] [] _
      refine XS.aload X11.here hx rfl (hb hby at_277) rfl rfl ?_
      refine st15.trans ?_
      refine XS.iload X15.here hx rfl (hb hby at_284) rfl ?_
      show own_S p e below T15 m 286 #[iv i1, iv i2, iv i3, iv i4, iv i5, iv ca, iv cb, iv cc, iv cd, iv (1 : Int32), iv (0 : Int32), rv b7, iv ca, iv cb, iv cc, iv cd, iv e1] [(.int e1), (.int (own_runs [ca]))] _
      refine XS.icmpNo X15.here hx rfl (hb hby at_286) rfl (teq hfin).2 ?_
      refine XS.iconst X15.here hx rfl (hb hby at_289) ?_
      refine XS.goto X15.here hx rfl (pc0 := 290) (pc' := 294) rfl (hb hby at_290) (by decide) (by decide) ?_
      exact k)
    obtain ⟨fs, hr, hrun, hended, hW, hsame⟩ := X15.leave (v := some (.int (nar .boolean (1 : Int32)))) (fun h => by rw [Bd.returns] at h; cases h)
    refine ⟨_, _, pre16 _ ?_, hrun, hended, _, _, rfl, ?_, ⟨_, rfl⟩, hW, hsame.mono (by decide) (by decide)⟩
    · show own_S p e below T15 m 294 #[iv i1, iv i2, iv i3, iv i4, iv i5, iv ca, iv cb, iv cc, iv cd, iv (1 : Int32), iv (0 : Int32), rv b7, iv ca, iv cb, iv cc, iv cd, iv e1] [(.int (1 : Int32))] _
      exact retN X15 hx (t := .boolean) Bd.returns (by simp) (hb hby at_294) hr
    · show Q0 Z i1 i2 i3 i4 i5 h0 n0 _ T15.heap _
      rw [e15]
      exact ⟨rfl, N15⟩
  ·  -- case
    have Zs18 : n0 ≤ T8.heap.size := (Nat.le_trans Zs9 K8.1)
    obtain ⟨cq17, kq17, q17a, q17b, q17c⟩ := isOf hZ rfl E8c
    obtain ⟨_, _, ⟨T17, L17, k17, n17⟩, -, X17, ⟨Lc17, hQ17, l17, y17, z17⟩, st17⟩ := X8.interfaceBack hx (xi := (⟨"com/example/bitstrata/bitstrata/Container", "remove", "(C)Lcom/example/bitstrata/bitstrata/Container;"⟩ : MethodName)) (y := (⟨"com/example/bitstrata/bitstrata/ArrayContainer", "remove", "(C)Lcom/example/bitstrata/bitstrata/Container;"⟩ : MethodName)) hown (mvT hZ (hw _ (List.mem_of_getElem? (i := 52) rfl))) (mvT hZ (hw _ (List.mem_of_getElem? (i := 53) rfl))) (mvT hZ (hw _ (List.mem_of_getElem? (i := 54) rfl))) (mvT hZ (hw _ (List.mem_of_getElem? (i := 55) rfl))) (mvT hZ (hw _ (List.mem_of_getElem? (i := 56) rfl))) (mvT hZ (hw _ (List.mem_of_getElem? (i := 57) rfl))) (mvT hZ (hw _ (List.mem_of_getElem? (i := 58) rfl))) (mvT hZ (hw _ (List.mem_of_getElem? (i := 28) rfl))) (by decide) (backOf (W := 0) (rmRem l Z a0 hw [] b7 ca t8 k_8 [ca] T8.heap n0 Zs18 E8c g_b7 g_t8 Fv8 Fcb8 Vb8 ne_t8 (Nat.le_refl 1 : 1 ≤ [ca].length) (by omega) (trivial : own_srt [ca]) (by intro x hx; cases List.mem_singleton.mp hx; exact hk_ca : own_chs [ca]) ((hm8 _).mpr rfl)) hZ (hw _ (List.mem_of_getElem? (i := 59) rfl)) (hw _ (List.mem_of_getElem? (i := 2) rfl)) (by decide) (by decide)) q17a q17b q17c (g := (mkF m 109 #[iv i1, iv i2, iv i3, iv i4, iv i5, iv ca, iv cb, iv cc, iv cd, iv (1 : Int32), iv (1 : Int32), rv b7, .unset, .unset, .unset, .unset, .unset] [(.int ca), (.ref b7)])) rfl (by rw [hml]; rfl) (Steps.refl _) (argsL := [(.int ca)]) (rest := []) (lenOf pd_6 rfl) rfl (by show 2 * 0 + _ ≤ _; exact Nat.le_of_eq rfl) (hb hby at_109) (fun _ _ => ⟨rfl, rfl, (by decide : 2 + 0 ≤ _), (by decide : 6 + 0 ≤ _)⟩)
    dsimp only [Pt.U, Pt.locs, Pt.cells, Pt.slots] at X17 l17 y17 z17 st17 hQ17
    subst l17 y17 z17
    obtain ⟨ys17, vs17, rfl, N17q, K17, E17c, Fv17, Fc17, V17u, l2_17, pr17, hs17, hch17, hm17⟩ := hQ17
    have N17 := Fr.app N8 N17q
    have Zs20 : n0 ≤ T17.heap.size := (Nat.le_trans Zs18 K17.1)
    obtain ⟨_, _, ⟨T19, L19, k19, n19⟩, -, X19, ⟨Lc19, hQ19, l19, y19, z19⟩, st19⟩ := Jvm.LawKit.callS X17 hx (y := (⟨"com/example/bitstrata/bitstrata/ArrayContainerRunCountPinLaw", "starts", "(IIIIIIZ)I"⟩ : MethodName)) hown (mvT hZ (hw _ (List.mem_of_getElem? (i := 14) rfl))) (mvT hZ (hw _ (List.mem_of_getElem? (i := 15) rfl))) (mvT hZ (hw _ (List.mem_of_getElem? (i := 16) rfl))) (mvT hZ (hw _ (List.mem_of_getElem? (i := 17) rfl))) (by decide) (backOf (W := 0) (rmSt l Z a0 hw [] ca ca cb cc cd (1 : Int32) (1 : Int32) T17.heap n0 Zs20 ) hZ (hw _ (List.mem_of_getElem? (i := 17) rfl)) (hw _ (List.mem_of_getElem? (i := 16) rfl)) (by decide) (by decide)) (g := (mkF m 146 #[iv i1, iv i2, iv i3, iv i4, iv i5, iv ca, iv cb, iv cc, iv cd, iv (1 : Int32), iv (1 : Int32), rv b7, iv ca, iv cb, iv cc, iv cd, .unset] [(.int (1 : Int32)), (.int (1 : Int32)), (.int cd), (.int cc), (.int cb), (.int ca), (.int ca)])) rfl (by rw [hml]; rfl) (argsL := [(.int ca), (.int ca), (.int cb), (.int cc), (.int cd), (.int (1 : Int32)), (.int (1 : Int32))]) (rest := []) (lenOf pd_4 rfl) rfl (by show 2 * 0 + _ ≤ _; exact Nat.le_of_eq rfl) (hb hby at_146) (fun _ _ => ⟨rfl, rfl, (by decide : 2 + 0 ≤ _), (by decide : 6 + 0 ≤ _)⟩)
    dsimp only [Pt.U, Pt.locs, Pt.cells, Pt.slots] at X19 l19 y19 z19 st19 hQ19
    subst l19 y19 z19
    obtain ⟨rfl, N19q, e19q⟩ := hQ19
    have N19 := Fr.app N17 N19q
    have e19 : T19.heap = T17.heap := e19q
    have pre21 : ∀ tg, own_S p e below T19 m 151 #[iv i1, iv i2, iv i3, iv i4, iv i5, iv ca, iv cb, iv cc, iv cd, iv (1 : Int32), iv (1 : Int32), rv b7, iv ca, iv cb, iv cc, iv cd, iv (own_st ca ca cb cc cd (1 : Int32) (1 : Int32))] [] tg → Steps p.tables e below (s₁.setTop (entryFrame m #[(.int i1), (.int i2), (.int i3), (.int i4), (.int i5)] maxLocals)) tg := fun tg k => pre10 tg (by
      show own_S p e below T8 m 49 #[iv i1, iv i2, iv i3, iv i4, iv i5, iv ca, iv cb, iv cc, iv cd, iv (1 : Int32), iv (1 : Int32), rv b7, .unset, .unset, .unset, .unset, .unset] [] _
      refine XS.iload X8.here hx rfl (hb hby at_49) rfl ?_
      refine XS.iconst X8.here hx rfl (hb hby at_51) ?_
      refine XS.icmpYes X8.here hx rfl (pc0 := 52) (pc' := 66) rfl (hb hby at_52) rfl (flt (by decide : ¬ ((1 : Int32) < (1 : Int32)))).2.2.2 (by decide) (by decide) ?_
      show own_S p e below T8 m 66 #[iv i1, iv i2, iv i3, iv i4, iv i5, iv ca, iv cb, iv cc, iv cd, iv (1 : Int32), iv (1 : Int32), rv b7, .unset, .unset, .unset, .unset, .unset] [] _
      refine XS.iload X8.here hx rfl (hb hby at_66) rfl ?_
      refine XS.iconst X8.here hx rfl (hb hby at_68) ?_
      refine XS.icmpYes X8.here hx rfl (pc0 := 69) (pc' := 83) rfl (hb hby at_69) rfl (flt (by decide : ¬ ((2 : Int32) < (1 : Int32)))).2.2.2 (by decide) (by decide) ?_
      show own_S p e below T8 m 83 #[iv i1, iv i2, iv i3, iv i4, iv i5, iv ca, iv cb, iv cc, iv cd, iv (1 : Int32), iv (1 : Int32), rv b7, .unset, .unset, .unset, .unset, .unset] [] _
      refine XS.iload X8.here hx rfl (hb hby at_83) rfl ?_
      refine XS.iconst X8.here hx rfl (hb hby at_85) ?_
      refine XS.icmpYes X8.here hx rfl (pc0 := 86) (pc' := 100) rfl (hb hby at_86) rfl (flt (by decide : ¬ ((3 : Int32) < (1 : Int32)))).2.2.2 (by decide) (by decide) ?_
      show own_S p e below T8 m 100 #[iv i1, iv i2, iv i3, iv i4, iv i5, iv ca, iv cb, iv cc, iv cd, iv (1 : Int32), iv (1 : Int32), rv b7, .unset, .unset, .unset, .unset, .unset] [] _
      refine XS.iload X8.here hx rfl (hb hby at_100) rfl ?_
      refine XS.ifNo X8.here hx rfl (hb hby at_102) rfl ((if0 _ _).trans (feq (by decide : ¬ ((1 : Int32) = (0 : Int32)))).1) ?_
      refine XS.aload X8.here hx rfl (hb hby at_105) rfl rfl ?_
      show own_S p e below T8 m 107 #[iv i1, iv i2, iv i3, iv i4, iv i5, iv ca, iv cb, iv cc, iv cd, iv (1 : Int32), iv (1 : Int32), rv b7, .unset, .unset, .unset, .unset, .unset] [(.ref b7)] _
      refine XS.iload X8.here hx rfl (hb hby at_107) rfl ?_
      refine st17.trans ?_
      refine XS.astore X17.here hx rfl (hb hby at_114) rfl rfl (l' := #[iv i1, iv i2, iv i3, iv i4, iv i5, iv ca, iv cb, iv cc, iv cd, iv (1 : Int32), iv (1 : Int32), rv b7, .unset, .unset, .unset, .unset, .unset]) rfl ?_
      show own_S p e below T17 m 116 #[iv i1, iv i2, iv i3, iv i4, iv i5, iv ca, iv cb, iv cc, iv cd, iv (1 : Int32), iv (1 : Int32), rv b7, .unset, .unset, .unset, .unset, .unset] [] _
      refine XS.iload X17.here hx rfl (hb hby at_116) rfl ?_
      refine XS.istore X17.here hx rfl (hb hby at_118) rfl (l' := #[iv i1, iv i2, iv i3, iv i4, iv i5, iv ca, iv cb, iv cc, iv cd, iv (1 : Int32), iv (1 : Int32), rv b7, iv ca, .unset, .unset, .unset, .unset]) rfl ?_
      refine XS.iload X17.here hx rfl (hb hby at_120) rfl ?_
      show own_S p e below T17 m 122 #[iv i1, iv i2, iv i3, iv i4, iv i5, iv ca, iv cb, iv cc, iv cd, iv (1 : Int32), iv (1 : Int32), rv b7, iv ca, .unset, .unset, .unset, .unset] [(.int cb)] _
      refine XS.istore X17.here hx rfl (hb hby at_122) rfl (l' := #[iv i1, iv i2, iv i3, iv i4, iv i5, iv ca, iv cb, iv cc, iv cd, iv (1 : Int32), iv (1 : Int32), rv b7, iv ca, iv cb, .unset, .unset, .unset]) rfl ?_
      refine XS.iload X17.here hx rfl (hb hby at_124) rfl ?_
      refine XS.istore X17.here hx rfl (hb hby at_126) rfl (l' := #[iv i1, iv i2, iv i3, iv i4, iv i5, iv ca, iv cb, iv cc, iv cd, iv (1 : Int32), iv (1 : Int32), rv b7, iv ca, iv cb, iv cc, .unset, .unset]) rfl ?_
      show own_S p e below T17 m 128 #[iv i1, iv i2, iv i3, iv i4, iv i5, iv ca, iv cb, iv cc, iv cd, iv (1 : Int32), iv (1 : Int32), rv b7, iv ca, iv cb, iv cc, .unset, .unset] [] _
      refine XS.iload X17.here hx rfl (hb hby at_128) rfl ?_
      refine XS.istore X17.here hx rfl (hb hby at_130) rfl (l' := #[iv i1, iv i2, iv i3, iv i4, iv i5, iv ca, iv cb, iv cc, iv cd, iv (1 : Int32), iv (1 : Int32), rv b7, iv ca, iv cb, iv cc, iv cd, .unset]) rfl ?_
      refine XS.iload X17.here hx rfl (hb hby at_132) rfl ?_
      show own_S p e below T17 m 134 #[iv i1, iv i2, iv i3, iv i4, iv i5, iv ca, iv cb, iv cc, iv cd, iv (1 : Int32), iv (1 : Int32), rv b7, iv ca, iv cb, iv cc, iv cd, .unset] [(.int ca)] _
      refine XS.iload X17.here hx rfl (hb hby at_134) rfl ?_
      refine XS.iload X17.here hx rfl (hb hby at_136) rfl ?_
      refine XS.iload X17.here hx rfl (hb hby at_138) rfl ?_
      show own_S p e below T17 m 140 #[iv i1, iv i2, iv i3, iv i4, iv i5, iv ca, iv cb, iv cc, iv cd, iv (1 : Int32), iv (1 : Int32), rv b7, iv ca, iv cb, iv cc, iv cd, .unset] [(.int cc), (.int cb), (.int ca), (.int ca)] _
      refine XS.iload X17.here hx rfl (hb hby at_140) rfl ?_
      refine XS.iload X17.here hx rfl (hb hby at_142) rfl ?_
      refine XS.iload X17.here hx rfl (hb hby at_144) rfl ?_
      show own_S p e below T17 m 146 #[iv i1, iv i2, iv i3, iv i4, iv i5, iv ca, iv cb, iv cc, iv cd, iv (1 : Int32), iv (1 : Int32), rv b7, iv ca, iv cb, iv cc, iv cd, .unset] [(.int (1 : Int32)), (.int (1 : Int32)), (.int cd), (.int cc), (.int cb), (.int ca), (.int ca)] _
      refine st19 _ ?_
      refine XS.istore X19.here hx rfl (hb hby at_149) rfl (l' := #[iv i1, iv i2, iv i3, iv i4, iv i5, iv ca, iv cb, iv cc, iv cd, iv (1 : Int32), iv (1 : Int32), rv b7, iv ca, iv cb, iv cc, iv cd, iv (own_st ca ca cb cc cd (1 : Int32) (1 : Int32))]) rfl ?_
      exact k)
    obtain ⟨e1, he1⟩ : ∃ z, z = own_st ca ca cb cc cd (1 : Int32) (1 : Int32) := ⟨_, rfl⟩
    rw [← he1] at pre21
    have pre22 : ∀ tg, own_S p e below T19 m 277 #[iv i1, iv i2, iv i3, iv i4, iv i5, iv ca, iv cb, iv cc, iv cd, iv (1 : Int32), iv (1 : Int32), rv b7, iv ca, iv cb, iv cc, iv cd, iv e1] [] tg → Steps p.tables e below (s₁.setTop (entryFrame m #[(.int i1), (.int i2), (.int i3), (.int i4), (.int i5)] maxLocals)) tg := fun tg k => pre21 tg (by
      show own_S p e below T19 m 151 #[iv i1, iv i2, iv i3, iv i4, iv i5, iv ca, iv cb, iv cc, iv cd, iv (1 : Int32), iv (1 : Int32), rv b7, iv ca, iv cb, iv cc, iv cd, iv e1] [] _
      refine XS.iload X19.here hx rfl (hb hby at_151) rfl ?_
      refine XS.iconst X19.here hx rfl (hb hby at_153) ?_
      refine XS.icmpYes X19.here hx rfl (pc0 := 154) (pc' := 186) rfl (hb hby at_154) rfl (flt (by decide : ¬ ((1 : Int32) < (1 : Int32)))).2.2.2 (by decide) (by decide) ?_
      show own_S p e below T19 m 186 #[iv i1, iv i2, iv i3, iv i4, iv i5, iv ca, iv cb, iv cc, iv cd, iv (1 : Int32), iv (1 : Int32), rv b7, iv ca, iv cb, iv cc, iv cd, iv e1] [] _
      refine XS.iload X19.here hx rfl (hb hby at_186) rfl ?_
      refine XS.iconst X19.here hx rfl (hb hby at_188) ?_
      refine XS.icmpYes X19.here hx rfl (pc0 := 189) (pc' := 228) rfl (hb hby at_189) rfl (flt (by decide : ¬ ((2 : Int32) < (1 : Int32)))).2.2.2 (by decide) (by decide) ?_
      show own_S p e below T19 m 228 #[iv i1, iv i2, iv i3, iv i4, iv i5, iv ca, iv cb, iv cc, iv cd, iv (1 : Int32), iv (1 : Int32), rv b7, iv ca, iv cb, iv cc, iv cd, iv e1] [] _
      refine XS.iload X19.here hx rfl (hb hby at_228) rfl ?_
      refine XS.iconst X19.here hx rfl (hb hby at_230) ?_
      refine XS.icmpYes X19.here hx rfl (pc0 := 231) (pc' := 277) rfl (hb hby at_231) rfl (flt (by decide : ¬ ((3 : Int32) < (1 : Int32)))).2.2.2 (by decide) (by decide) ?_
      exact k)
    obtain ⟨dd, hdd, hsum, hmd⟩ := own_dd1 (fun x => own_st x ca cb cc cd (1 : Int32) (1 : Int32)) ca e1 he1
    have hset : ∀ x, x ∈ ys17 ↔ own_set ca cb cc cd (1 : Int32) (1 : Int32) x := fun x => by
      rw [hm17]; rw [hm8]
      simp only [own_set, (by decide : ¬ (1 : Int32) < 1), (by decide : ¬ (2 : Int32) < 1), (by decide : ¬ (3 : Int32) < 1), true_and, false_and, or_false, false_or, (by decide : ¬ (1 : Int32) = 0), and_true, and_false]
      try (by_cases q : x = ca <;> simp [q, or_assoc])
    have hfin : own_runs ys17 = e1 := by
      rw [hsum]
      refine own_plain hs17 (own_rng_of hch17) hdd (fun x hx => (hmd x).mpr ?_) (fun x => own_st_f hset x)
      have := (hset x).mp hx
      simp only [own_set, (by decide : ¬ (1 : Int32) < 1), (by decide : ¬ (2 : Int32) < 1), (by decide : ¬ (3 : Int32) < 1), true_and, false_and, or_false, false_or] at this
      rcases this with this | this
      · simp [this.1]
      · exact absurd this.2 id
    obtain ⟨cq23, kq23, q23a, q23b, q23c⟩ := isOf hZ e19 E17c
    obtain ⟨_, _, ⟨T23, L23, k23, n23⟩, -, X23, ⟨Lc23, hQ23, l23, y23, z23⟩, st23⟩ := X19.interfaceBack hx (xi := (⟨"com/example/bitstrata/bitstrata/Container", "runCount", "()I"⟩ : MethodName)) (y := (⟨"com/example/bitstrata/bitstrata/ArrayContainer", "runCount", "()I"⟩ : MethodName)) hown (mvT hZ (hw _ (List.mem_of_getElem? (i := 21) rfl))) (mvT hZ (hw _ (List.mem_of_getElem? (i := 22) rfl))) (mvT hZ (hw _ (List.mem_of_getElem? (i := 23) rfl))) (mvT hZ (hw _ (List.mem_of_getElem? (i := 24) rfl))) (mvT hZ (hw _ (List.mem_of_getElem? (i := 25) rfl))) (mvT hZ (hw _ (List.mem_of_getElem? (i := 26) rfl))) (mvT hZ (hw _ (List.mem_of_getElem? (i := 27) rfl))) (mvT hZ (hw _ (List.mem_of_getElem? (i := 28) rfl))) (by decide) (backOf (W := 0) (rmRun l Z a0 hw [] b7 t8 k_8 ys17 vs17 T17.heap n0 Zs20 Fv17 Fc17 V17u l2_17 pr17) hZ (hw _ (List.mem_of_getElem? (i := 29) rfl)) (hw _ (List.mem_of_getElem? (i := 2) rfl)) (by decide) (by decide)) q23a q23b q23c (g := (mkF m 279 #[iv i1, iv i2, iv i3, iv i4, iv i5, iv ca, iv cb, iv cc, iv cd, iv (1 : Int32), iv (1 : Int32), rv b7, iv ca, iv cb, iv cc, iv cd, iv e1] [(.ref b7)])) rfl (by rw [hml]; rfl) (Steps.refl _) (argsL := []) (rest := []) (lenOf pd_5 rfl) rfl (by show 2 * 0 + _ ≤ _; exact Nat.le_of_eq rfl) (hb hby at_279) (fun _ _ => ⟨rfl, e19, (by decide : 2 + 0 ≤ _), (by decide : 6 + 0 ≤ _)⟩)
    dsimp only [Pt.U, Pt.locs, Pt.cells, Pt.slots] at X23 l23 y23 z23 st23 hQ23
    subst l23 y23 z23
    obtain ⟨rfl, N23q, e23q⟩ := hQ23
    have N23 := Fr.app N19 N23q
    have e23 : T23.heap = T17.heap := e23q
    have pre24 : ∀ tg, own_S p e below T23 m 294 #[iv i1, iv i2, iv i3, iv i4, iv i5, iv ca, iv cb, iv cc, iv cd, iv (1 : Int32), iv (1 : Int32), rv b7, iv ca, iv cb, iv cc, iv cd, iv e1] [(.int (1 : Int32))] tg → Steps p.tables e below (s₁.setTop (entryFrame m #[(.int i1), (.int i2), (.int i3), (.int i4), (.int i5)] maxLocals)) tg := fun tg k => pre22 tg (by
      show own_S p e below T19 m 277 #[iv i1, iv i2, iv i3, iv i4, iv i5, iv ca, iv cb, iv cc, iv cd, iv (1 : Int32), iv (1 : Int32), rv b7, iv ca, iv cb, iv cc, iv cd, iv e1] [] _
      refine XS.aload X19.here hx rfl (hb hby at_277) rfl rfl ?_
      refine st23.trans ?_
      refine XS.iload X23.here hx rfl (hb hby at_284) rfl ?_
      show own_S p e below T23 m 286 #[iv i1, iv i2, iv i3, iv i4, iv i5, iv ca, iv cb, iv cc, iv cd, iv (1 : Int32), iv (1 : Int32), rv b7, iv ca, iv cb, iv cc, iv cd, iv e1] [(.int e1), (.int (own_runs ys17))] _
      refine XS.icmpNo X23.here hx rfl (hb hby at_286) rfl (teq hfin).2 ?_
      refine XS.iconst X23.here hx rfl (hb hby at_289) ?_
      refine XS.goto X23.here hx rfl (pc0 := 290) (pc' := 294) rfl (hb hby at_290) (by decide) (by decide) ?_
      exact k)
    obtain ⟨fs, hr, hrun, hended, hW, hsame⟩ := X23.leave (v := some (.int (nar .boolean (1 : Int32)))) (fun h => by rw [Bd.returns] at h; cases h)
    refine ⟨_, _, pre24 _ ?_, hrun, hended, _, _, rfl, ?_, ⟨_, rfl⟩, hW, hsame.mono (by decide) (by decide)⟩
    · show own_S p e below T23 m 294 #[iv i1, iv i2, iv i3, iv i4, iv i5, iv ca, iv cb, iv cc, iv cd, iv (1 : Int32), iv (1 : Int32), rv b7, iv ca, iv cb, iv cc, iv cd, iv e1] [(.int (1 : Int32))] _
      exact retN X23 hx (t := .boolean) Bd.returns (by simp) (hb hby at_294) hr
    · show Q0 Z i1 i2 i3 i4 i5 h0 n0 _ T23.heap _
      rw [e23]
      exact ⟨rfl, N23⟩
  ·  -- case
    have Zs26 : n0 ≤ T8.heap.size := (Nat.le_trans Zs9 K8.1)
    obtain ⟨cq25, kq25, q25a, q25b, q25c⟩ := isOf hZ rfl E8c
    obtain ⟨_, _, ⟨T25, L25, k25, n25⟩, -, X25, ⟨Lc25, hQ25, l25, y25, z25⟩, st25⟩ := X8.interfaceBack hx (xi := (⟨"com/example/bitstrata/bitstrata/Container", "add", "(C)Lcom/example/bitstrata/bitstrata/Container;"⟩ : MethodName)) (y := (⟨"com/example/bitstrata/bitstrata/ArrayContainer", "add", "(C)Lcom/example/bitstrata/bitstrata/Container;"⟩ : MethodName)) hown (mvT hZ (hw _ (List.mem_of_getElem? (i := 30) rfl))) (mvT hZ (hw _ (List.mem_of_getElem? (i := 31) rfl))) (mvT hZ (hw _ (List.mem_of_getElem? (i := 32) rfl))) (mvT hZ (hw _ (List.mem_of_getElem? (i := 33) rfl))) (mvT hZ (hw _ (List.mem_of_getElem? (i := 34) rfl))) (mvT hZ (hw _ (List.mem_of_getElem? (i := 35) rfl))) (mvT hZ (hw _ (List.mem_of_getElem? (i := 36) rfl))) (mvT hZ (hw _ (List.mem_of_getElem? (i := 28) rfl))) (by decide) (backOf (W := 0) (rmAdd l Z a0 hw [] b7 cb t8 k_8 [ca] T8.heap n0 Zs26 E8c g_b7 g_t8 Fv8 Fcb8 Vb8 ne_t8 (Nat.le_refl 1 : 1 ≤ [ca].length) (by omega) (trivial : own_srt [ca]) (by intro x hx; cases List.mem_singleton.mp hx; exact hk_ca : own_chs [ca]) hk_cb) hZ (hw _ (List.mem_of_getElem? (i := 37) rfl)) (hw _ (List.mem_of_getElem? (i := 2) rfl)) (by decide) (by decide)) q25a q25b q25c (g := (mkF m 59 #[iv i1, iv i2, iv i3, iv i4, iv i5, iv ca, iv cb, iv cc, iv cd, iv (2 : Int32), iv (0 : Int32), rv b7, .unset, .unset, .unset, .unset, .unset] [(.int cb), (.ref b7)])) rfl (by rw [hml]; rfl) (Steps.refl _) (argsL := [(.int cb)]) (rest := []) (lenOf pd_6 rfl) rfl (by show 2 * 0 + _ ≤ _; exact Nat.le_of_eq rfl) (hb hby at_59) (fun _ _ => ⟨rfl, rfl, (by decide : 2 + 0 ≤ _), (by decide : 6 + 0 ≤ _)⟩)
    dsimp only [Pt.U, Pt.locs, Pt.cells, Pt.slots] at X25 l25 y25 z25 st25 hQ25
    subst l25 y25 z25
    obtain ⟨ys25, u25, ku25, rfl, N25q, K25, E25c, Fv25, Fc25, V25u, g_u25, ne_u25, -, l1_25, l2_25, hs25, hch25, hm25⟩ := hQ25
    have N25 := Fr.app N8 N25q
    have Zs28 : n0 ≤ T25.heap.size := (Nat.le_trans Zs26 K25.1)
    obtain ⟨_, _, ⟨T27, L27, k27, n27⟩, -, X27, ⟨Lc27, hQ27, l27, y27, z27⟩, st27⟩ := Jvm.LawKit.callS X25 hx (y := (⟨"com/example/bitstrata/bitstrata/ArrayContainerRunCountPinLaw", "starts", "(IIIIIIZ)I"⟩ : MethodName)) hown (mvT hZ (hw _ (List.mem_of_getElem? (i := 14) rfl))) (mvT hZ (hw _ (List.mem_of_getElem? (i := 15) rfl))) (mvT hZ (hw _ (List.mem_of_getElem? (i := 16) rfl))) (mvT hZ (hw _ (List.mem_of_getElem? (i := 17) rfl))) (by decide) (backOf (W := 0) (rmSt l Z a0 hw [] ca ca cb cc cd (2 : Int32) (0 : Int32) T25.heap n0 Zs28 ) hZ (hw _ (List.mem_of_getElem? (i := 17) rfl)) (hw _ (List.mem_of_getElem? (i := 16) rfl)) (by decide) (by decide)) (g := (mkF m 146 #[iv i1, iv i2, iv i3, iv i4, iv i5, iv ca, iv cb, iv cc, iv cd, iv (2 : Int32), iv (0 : Int32), rv b7, iv ca, iv cb, iv cc, iv cd, .unset] [(.int (0 : Int32)), (.int (2 : Int32)), (.int cd), (.int cc), (.int cb), (.int ca), (.int ca)])) rfl (by rw [hml]; rfl) (argsL := [(.int ca), (.int ca), (.int cb), (.int cc), (.int cd), (.int (2 : Int32)), (.int (0 : Int32))]) (rest := []) (lenOf pd_4 rfl) rfl (by show 2 * 0 + _ ≤ _; exact Nat.le_of_eq rfl) (hb hby at_146) (fun _ _ => ⟨rfl, rfl, (by decide : 2 + 0 ≤ _), (by decide : 6 + 0 ≤ _)⟩)
    dsimp only [Pt.U, Pt.locs, Pt.cells, Pt.slots] at X27 l27 y27 z27 st27 hQ27
    subst l27 y27 z27
    obtain ⟨rfl, N27q, e27q⟩ := hQ27
    have N27 := Fr.app N25 N27q
    have e27 : T27.heap = T25.heap := e27q
    have pre29 : ∀ tg, own_S p e below T27 m 151 #[iv i1, iv i2, iv i3, iv i4, iv i5, iv ca, iv cb, iv cc, iv cd, iv (2 : Int32), iv (0 : Int32), rv b7, iv ca, iv cb, iv cc, iv cd, iv (own_st ca ca cb cc cd (2 : Int32) (0 : Int32))] [] tg → Steps p.tables e below (s₁.setTop (entryFrame m #[(.int i1), (.int i2), (.int i3), (.int i4), (.int i5)] maxLocals)) tg := fun tg k => pre10 tg (by
      show own_S p e below T8 m 49 #[iv i1, iv i2, iv i3, iv i4, iv i5, iv ca, iv cb, iv cc, iv cd, iv (2 : Int32), iv (0 : Int32), rv b7, .unset, .unset, .unset, .unset, .unset] [] _
      refine XS.iload X8.here hx rfl (hb hby at_49) rfl ?_
      refine XS.iconst X8.here hx rfl (hb hby at_51) ?_
      refine XS.icmpNo X8.here hx rfl (hb hby at_52) rfl (tlt (by decide : (1 : Int32) < (2 : Int32))).2.2.2 ?_
      show own_S p e below T8 m 55 #[iv i1, iv i2, iv i3, iv i4, iv i5, iv ca, iv cb, iv cc, iv cd, iv (2 : Int32), iv (0 : Int32), rv b7, .unset, .unset, .unset, .unset, .unset] [] _
      refine XS.aload X8.here hx rfl (hb hby at_55) rfl rfl ?_
      refine XS.iload X8.here hx rfl (hb hby at_57) rfl ?_
      refine st25.trans ?_
      show own_S p e below T25 m 64 #[iv i1, iv i2, iv i3, iv i4, iv i5, iv ca, iv cb, iv cc, iv cd, iv (2 : Int32), iv (0 : Int32), rv b7, .unset, .unset, .unset, .unset, .unset] [(.ref b7)] _
      refine XS.astore X25.here hx rfl (hb hby at_64) rfl rfl (l' := #[iv i1, iv i2, iv i3, iv i4, iv i5, iv ca, iv cb, iv cc, iv cd, iv (2 : Int32), iv (0 : Int32), rv b7, .unset, .unset, .unset, .unset, .unset]) rfl ?_
      refine XS.iload X25.here hx rfl (hb hby at_66) rfl ?_
      refine XS.iconst X25.here hx rfl (hb hby at_68) ?_
      show own_S p e below T25 m 69 #[iv i1, iv i2, iv i3, iv i4, iv i5, iv ca, iv cb, iv cc, iv cd, iv (2 : Int32), iv (0 : Int32), rv b7, .unset, .unset, .unset, .unset, .unset] [(.int (2 : Int32)), (.int (2 : Int32))] _
      refine XS.icmpYes X25.here hx rfl (pc0 := 69) (pc' := 83) rfl (hb hby at_69) rfl (flt (by decide : ¬ ((2 : Int32) < (2 : Int32)))).2.2.2 (by decide) (by decide) ?_
      refine XS.iload X25.here hx rfl (hb hby at_83) rfl ?_
      refine XS.iconst X25.here hx rfl (hb hby at_85) ?_
      show own_S p e below T25 m 86 #[iv i1, iv i2, iv i3, iv i4, iv i5, iv ca, iv cb, iv cc, iv cd, iv (2 : Int32), iv (0 : Int32), rv b7, .unset, .unset, .unset, .unset, .unset] [(.int (3 : Int32)), (.int (2 : Int32))] _
      refine XS.icmpYes X25.here hx rfl (pc0 := 86) (pc' := 100) rfl (hb hby at_86) rfl (flt (by decide : ¬ ((3 : Int32) < (2 : Int32)))).2.2.2 (by decide) (by decide) ?_
      refine XS.iload X25.here hx rfl (hb hby at_100) rfl ?_
      refine XS.ifYes X25.here hx rfl (pc0 := 102) (pc' := 116) rfl (hb hby at_102) rfl ((if0 _ _).trans (teq (by decide : (0 : Int32) = (0 : Int32))).1) (by decide) (by decide) ?_
      show own_S p e below T25 m 116 #[iv i1, iv i2, iv i3, iv i4, iv i5, iv ca, iv cb, iv cc, iv cd, iv (2 : Int32), iv (0 : Int32), rv b7, .unset, .unset, .unset, .unset, .unset] [] _
      refine XS.iload X25.here hx rfl (hb hby at_116) rfl ?_
      refine XS.istore X25.here hx rfl (hb hby at_118) rfl (l' := #[iv i1, iv i2, iv i3, iv i4, iv i5, iv ca, iv cb, iv cc, iv cd, iv (2 : Int32), iv (0 : Int32), rv b7, iv ca, .unset, .unset, .unset, .unset]) rfl ?_
      refine XS.iload X25.here hx rfl (hb hby at_120) rfl ?_
      show own_S p e below T25 m 122 #[iv i1, iv i2, iv i3, iv i4, iv i5, iv ca, iv cb, iv cc, iv cd, iv (2 : Int32), iv (0 : Int32), rv b7, iv ca, .unset, .unset, .unset, .unset] [(.int cb)] _
      refine XS.istore X25.here hx rfl (hb hby at_122) rfl (l' := #[iv i1, iv i2, iv i3, iv i4, iv i5, iv ca, iv cb, iv cc, iv cd, iv (2 : Int32), iv (0 : Int32), rv b7, iv ca, iv cb, .unset, .unset, .unset]) rfl ?_
      refine XS.iload X25.here hx rfl (hb hby at_124) rfl ?_
      refine XS.istore X25.here hx rfl (hb hby at_126) rfl (l' := #[iv i1, iv i2, iv i3, iv i4, iv i5, iv ca, iv cb, iv cc, iv cd, iv (2 : Int32), iv (0 : Int32), rv b7, iv ca, iv cb, iv cc, .unset, .unset]) rfl ?_
      show own_S p e below T25 m 128 #[iv i1, iv i2, iv i3, iv i4, iv i5, iv ca, iv cb, iv cc, iv cd, iv (2 : Int32), iv (0 : Int32), rv b7, iv ca, iv cb, iv cc, .unset, .unset] [] _
      refine XS.iload X25.here hx rfl (hb hby at_128) rfl ?_
      refine XS.istore X25.here hx rfl (hb hby at_130) rfl (l' := #[iv i1, iv i2, iv i3, iv i4, iv i5, iv ca, iv cb, iv cc, iv cd, iv (2 : Int32), iv (0 : Int32), rv b7, iv ca, iv cb, iv cc, iv cd, .unset]) rfl ?_
      refine XS.iload X25.here hx rfl (hb hby at_132) rfl ?_
      show own_S p e below T25 m 134 #[iv i1, iv i2, iv i3, iv i4, iv i5, iv ca, iv cb, iv cc, iv cd, iv (2 : Int32), iv (0 : Int32), rv b7, iv ca, iv cb, iv cc, iv cd, .unset] [(.int ca)] _
      refine XS.iload X25.here hx rfl (hb hby at_134) rfl ?_
      refine XS.iload X25.here hx rfl (hb hby at_136) rfl ?_
      refine XS.iload X25.here hx rfl (hb hby at_138) rfl ?_
      show own_S p e below T25 m 140 #[iv i1, iv i2, iv i3, iv i4, iv i5, iv ca, iv cb, iv cc, iv cd, iv (2 : Int32), iv (0 : Int32), rv b7, iv ca, iv cb, iv cc, iv cd, .unset] [(.int cc), (.int cb), (.int ca), (.int ca)] _
      refine XS.iload X25.here hx rfl (hb hby at_140) rfl ?_
      refine XS.iload X25.here hx rfl (hb hby at_142) rfl ?_
      refine XS.iload X25.here hx rfl (hb hby at_144) rfl ?_
      show own_S p e below T25 m 146 #[iv i1, iv i2, iv i3, iv i4, iv i5, iv ca, iv cb, iv cc, iv cd, iv (2 : Int32), iv (0 : Int32), rv b7, iv ca, iv cb, iv cc, iv cd, .unset] [(.int (0 : Int32)), (.int (2 : Int32)), (.int cd), (.int cc), (.int cb), (.int ca), (.int ca)] _
      refine st27 _ ?_
      refine XS.istore X27.here hx rfl (hb hby at_149) rfl (l' := #[iv i1, iv i2, iv i3, iv i4, iv i5, iv ca, iv cb, iv cc, iv cd, iv (2 : Int32), iv (0 : Int32), rv b7, iv ca, iv cb, iv cc, iv cd, iv (own_st ca ca cb cc cd (2 : Int32) (0 : Int32))]) rfl ?_
      exact k)
    obtain ⟨e1, he1⟩ : ∃ z, z = own_st ca ca cb cc cd (2 : Int32) (0 : Int32) := ⟨_, rfl⟩
    rw [← he1] at pre29
    obtain ⟨Tj30, Lj30, Xj30, ej30, Nj30, e2, h_e2, prej30⟩ : ∃ (Tj : State) (Lj : List Loc), Stand p l e room_1 s m #[(.int i1), (.int i2), (.int i3), (.int i4), (.int i5)] below meth c Tj Lj 2 6 ∧ Tj.heap = T25.heap ∧ Fr n0 Lj ∧ ∃ e2 : Int32, (((cb = ca) ∧ e2 = e1) ∨ (¬ (cb = ca) ∧ e2 = e1 + own_st cb ca cb cc cd (2 : Int32) (0 : Int32))) ∧ ∀ tg, own_S p e below Tj m 186 #[iv i1, iv i2, iv i3, iv i4, iv i5, iv ca, iv cb, iv cc, iv cd, iv (2 : Int32), iv (0 : Int32), rv b7, iv ca, iv cb, iv cc, iv cd, iv e2] [] tg → Steps p.tables e below (s₁.setTop (entryFrame m #[(.int i1), (.int i2), (.int i3), (.int i4), (.int i5)] maxLocals)) tg := by
      have pre32 : ∀ tg, own_S p e below T27 m 161 #[iv i1, iv i2, iv i3, iv i4, iv i5, iv ca, iv cb, iv cc, iv cd, iv (2 : Int32), iv (0 : Int32), rv b7, iv ca, iv cb, iv cc, iv cd, iv e1] [(.int ca), (.int cb)] tg → Steps p.tables e below (s₁.setTop (entryFrame m #[(.int i1), (.int i2), (.int i3), (.int i4), (.int i5)] maxLocals)) tg := fun tg k => pre29 tg (by
        show own_S p e below T27 m 151 #[iv i1, iv i2, iv i3, iv i4, iv i5, iv ca, iv cb, iv cc, iv cd, iv (2 : Int32), iv (0 : Int32), rv b7, iv ca, iv cb, iv cc, iv cd, iv e1] [] _
        refine XS.iload X27.here hx rfl (hb hby at_151) rfl ?_
        refine XS.iconst X27.here hx rfl (hb hby at_153) ?_
        refine XS.icmpNo X27.here hx rfl (hb hby at_154) rfl (tlt (by decide : (1 : Int32) < (2 : Int32))).2.2.2 ?_
        show own_S p e below T27 m 157 #[iv i1, iv i2, iv i3, iv i4, iv i5, iv ca, iv cb, iv cc, iv cd, iv (2 : Int32), iv (0 : Int32), rv b7, iv ca, iv cb, iv cc, iv cd, iv e1] [] _
        refine XS.iload X27.here hx rfl (hb hby at_157) rfl ?_
        refine XS.iload X27.here hx rfl (hb hby at_159) rfl ?_
        exact k)
      by_cases hc161_31 : cb = ca
      ·  -- pc 161 yes
        have pre33 : ∀ tg, own_S p e below T27 m 186 #[iv i1, iv i2, iv i3, iv i4, iv i5, iv ca, iv cb, iv cc, iv cd, iv (2 : Int32), iv (0 : Int32), rv b7, iv ca, iv cb, iv cc, iv cd, iv e1] [] tg → Steps p.tables e below (s₁.setTop (entryFrame m #[(.int i1), (.int i2), (.int i3), (.int i4), (.int i5)] maxLocals)) tg := fun tg k => pre32 tg (by
          show own_S p e below T27 m 161 #[iv i1, iv i2, iv i3, iv i4, iv i5, iv ca, iv cb, iv cc, iv cd, iv (2 : Int32), iv (0 : Int32), rv b7, iv ca, iv cb, iv cc, iv cd, iv e1] [(.int ca), (.int cb)] _
          refine XS.icmpYes X27.here hx rfl (pc0 := 161) (pc' := 186) rfl (hb hby at_161) rfl (teq hc161_31).1 (by decide) (by decide) ?_
          exact k)
        exact ⟨T27, _, X27, e27, N27, e1, (by first | exact Or.inl ⟨by simp [hc161_31], rfl⟩ | exact Or.inr ⟨by simp [hc161_31], rfl⟩), pre33⟩
      ·  -- pc 161 no
        obtain ⟨_, _, ⟨T34, L34, k34, n34⟩, -, X34, ⟨Lc34, hQ34, l34, y34, z34⟩, st34⟩ := Jvm.LawKit.callS X27 hx (y := (⟨"com/example/bitstrata/bitstrata/ArrayContainerRunCountPinLaw", "starts", "(IIIIIIZ)I"⟩ : MethodName)) hown (mvT hZ (hw _ (List.mem_of_getElem? (i := 14) rfl))) (mvT hZ (hw _ (List.mem_of_getElem? (i := 15) rfl))) (mvT hZ (hw _ (List.mem_of_getElem? (i := 16) rfl))) (mvT hZ (hw _ (List.mem_of_getElem? (i := 17) rfl))) (by decide) (backOf (W := 1) (rmSt l Z a0 hw [] cb ca cb cc cd (2 : Int32) (0 : Int32) T25.heap n0 Zs28 ) hZ (hw _ (List.mem_of_getElem? (i := 17) rfl)) (hw _ (List.mem_of_getElem? (i := 16) rfl)) (by decide) (by decide)) (g := (mkF m 180 #[iv i1, iv i2, iv i3, iv i4, iv i5, iv ca, iv cb, iv cc, iv cd, iv (2 : Int32), iv (0 : Int32), rv b7, iv ca, iv cb, iv cc, iv cd, iv e1] [(.int (0 : Int32)), (.int (2 : Int32)), (.int cd), (.int cc), (.int cb), (.int ca), (.int cb), (.int e1)])) rfl (by rw [hml]; rfl) (argsL := [(.int cb), (.int ca), (.int cb), (.int cc), (.int cd), (.int (2 : Int32)), (.int (0 : Int32))]) (rest := [(.int e1)]) (lenOf pd_4 rfl) rfl (by show 2 * 0 + _ ≤ _; exact Nat.le_of_eq rfl) (hb hby at_180) (fun _ _ => ⟨rfl, e27, (by decide : 2 + 0 ≤ _), (by decide : 6 + 0 ≤ _)⟩)
        dsimp only [Pt.U, Pt.locs, Pt.cells, Pt.slots] at X34 l34 y34 z34 st34 hQ34
        subst l34 y34 z34
        obtain ⟨rfl, N34q, e34q⟩ := hQ34
        have N34 := Fr.app N27 N34q
        have e34 : T34.heap = T25.heap := e34q
        have pre35 : ∀ tg, own_S p e below T34 m 186 #[iv i1, iv i2, iv i3, iv i4, iv i5, iv ca, iv cb, iv cc, iv cd, iv (2 : Int32), iv (0 : Int32), rv b7, iv ca, iv cb, iv cc, iv cd, iv (e1 + (own_st cb ca cb cc cd (2 : Int32) (0 : Int32)))] [] tg → Steps p.tables e below (s₁.setTop (entryFrame m #[(.int i1), (.int i2), (.int i3), (.int i4), (.int i5)] maxLocals)) tg := fun tg k => pre32 tg (by
          show own_S p e below T27 m 161 #[iv i1, iv i2, iv i3, iv i4, iv i5, iv ca, iv cb, iv cc, iv cd, iv (2 : Int32), iv (0 : Int32), rv b7, iv ca, iv cb, iv cc, iv cd, iv e1] [(.int ca), (.int cb)] _
          refine XS.icmpNo X27.here hx rfl (hb hby at_161) rfl (feq hc161_31).1 ?_
          refine XS.iload X27.here hx rfl (hb hby at_164) rfl ?_
          refine XS.iload X27.here hx rfl (hb hby at_166) rfl ?_
          show own_S p e below T27 m 168 #[iv i1, iv i2, iv i3, iv i4, iv i5, iv ca, iv cb, iv cc, iv cd, iv (2 : Int32), iv (0 : Int32), rv b7, iv ca, iv cb, iv cc, iv cd, iv e1] [(.int cb), (.int e1)] _
          refine XS.iload X27.here hx rfl (hb hby at_168) rfl ?_
          refine XS.iload X27.here hx rfl (hb hby at_170) rfl ?_
          refine XS.iload X27.here hx rfl (hb hby at_172) rfl ?_
          show own_S p e below T27 m 174 #[iv i1, iv i2, iv i3, iv i4, iv i5, iv ca, iv cb, iv cc, iv cd, iv (2 : Int32), iv (0 : Int32), rv b7, iv ca, iv cb, iv cc, iv cd, iv e1] [(.int cc), (.int cb), (.int ca), (.int cb), (.int e1)] _
          refine XS.iload X27.here hx rfl (hb hby at_174) rfl ?_
          refine XS.iload X27.here hx rfl (hb hby at_176) rfl ?_
          refine XS.iload X27.here hx rfl (hb hby at_178) rfl ?_
          show own_S p e below T27 m 180 #[iv i1, iv i2, iv i3, iv i4, iv i5, iv ca, iv cb, iv cc, iv cd, iv (2 : Int32), iv (0 : Int32), rv b7, iv ca, iv cb, iv cc, iv cd, iv e1] [(.int (0 : Int32)), (.int (2 : Int32)), (.int cd), (.int cc), (.int cb), (.int ca), (.int cb), (.int e1)] _
          refine st34 _ ?_
          refine XS.iadd X34.here hx rfl (hb hby at_183) rfl ?_
          refine XS.istore X34.here hx rfl (hb hby at_184) rfl (l' := #[iv i1, iv i2, iv i3, iv i4, iv i5, iv ca, iv cb, iv cc, iv cd, iv (2 : Int32), iv (0 : Int32), rv b7, iv ca, iv cb, iv cc, iv cd, iv (e1 + (own_st cb ca cb cc cd (2 : Int32) (0 : Int32)))]) rfl ?_
          exact k)
        exact ⟨T34, _, X34, e34, N34, (e1 + (own_st cb ca cb cc cd (2 : Int32) (0 : Int32))), (by first | exact Or.inl ⟨by simp [hc161_31], rfl⟩ | exact Or.inr ⟨by simp [hc161_31], rfl⟩), pre35⟩
    have pre36 : ∀ tg, own_S p e below Tj30 m 277 #[iv i1, iv i2, iv i3, iv i4, iv i5, iv ca, iv cb, iv cc, iv cd, iv (2 : Int32), iv (0 : Int32), rv b7, iv ca, iv cb, iv cc, iv cd, iv e2] [] tg → Steps p.tables e below (s₁.setTop (entryFrame m #[(.int i1), (.int i2), (.int i3), (.int i4), (.int i5)] maxLocals)) tg := fun tg k => prej30 tg (by
      show own_S p e below Tj30 m 186 #[iv i1, iv i2, iv i3, iv i4, iv i5, iv ca, iv cb, iv cc, iv cd, iv (2 : Int32), iv (0 : Int32), rv b7, iv ca, iv cb, iv cc, iv cd, iv e2] [] _
      refine XS.iload Xj30.here hx rfl (hb hby at_186) rfl ?_
      refine XS.iconst Xj30.here hx rfl (hb hby at_188) ?_
      refine XS.icmpYes Xj30.here hx rfl (pc0 := 189) (pc' := 228) rfl (hb hby at_189) rfl (flt (by decide : ¬ ((2 : Int32) < (2 : Int32)))).2.2.2 (by decide) (by decide) ?_
      show own_S p e below Tj30 m 228 #[iv i1, iv i2, iv i3, iv i4, iv i5, iv ca, iv cb, iv cc, iv cd, iv (2 : Int32), iv (0 : Int32), rv b7, iv ca, iv cb, iv cc, iv cd, iv e2] [] _
      refine XS.iload Xj30.here hx rfl (hb hby at_228) rfl ?_
      refine XS.iconst Xj30.here hx rfl (hb hby at_230) ?_
      refine XS.icmpYes Xj30.here hx rfl (pc0 := 231) (pc' := 277) rfl (hb hby at_231) rfl (flt (by decide : ¬ ((3 : Int32) < (2 : Int32)))).2.2.2 (by decide) (by decide) ?_
      exact k)
    obtain ⟨dd, hdd, hsum, hmd⟩ := own_dd2 (fun x => own_st x ca cb cc cd (2 : Int32) (0 : Int32)) ca cb e1 e2 he1 h_e2
    have hset : ∀ x, x ∈ ys25 ↔ own_set ca cb cc cd (2 : Int32) (0 : Int32) x := fun x => by
      rw [hm25]; rw [hm8]
      simp only [own_set, (by decide : (1 : Int32) < 2), (by decide : ¬ (2 : Int32) < 2), (by decide : ¬ (3 : Int32) < 2), true_and, false_and, or_false, false_or, (by decide : (0 : Int32) = 0), and_true, and_false]
      try (by_cases q : x = ca <;> simp [q, or_assoc])
    have hfin : own_runs ys25 = e2 := by
      rw [hsum]
      refine own_plain hs25 (own_rng_of hch25) hdd (fun x hx => (hmd x).mpr ?_) (fun x => own_st_f hset x)
      have := (hset x).mp hx
      simp only [own_set, (by decide : (1 : Int32) < 2), (by decide : ¬ (2 : Int32) < 2), (by decide : ¬ (3 : Int32) < 2), true_and, false_and, or_false, false_or] at this
      rcases this with this | this
      · simp [this.1]
      · simp [this.2]
    obtain ⟨cq37, kq37, q37a, q37b, q37c⟩ := isOf hZ ej30 E25c
    obtain ⟨_, _, ⟨T37, L37, k37, n37⟩, -, X37, ⟨Lc37, hQ37, l37, y37, z37⟩, st37⟩ := Xj30.interfaceBack hx (xi := (⟨"com/example/bitstrata/bitstrata/Container", "runCount", "()I"⟩ : MethodName)) (y := (⟨"com/example/bitstrata/bitstrata/ArrayContainer", "runCount", "()I"⟩ : MethodName)) hown (mvT hZ (hw _ (List.mem_of_getElem? (i := 21) rfl))) (mvT hZ (hw _ (List.mem_of_getElem? (i := 22) rfl))) (mvT hZ (hw _ (List.mem_of_getElem? (i := 23) rfl))) (mvT hZ (hw _ (List.mem_of_getElem? (i := 24) rfl))) (mvT hZ (hw _ (List.mem_of_getElem? (i := 25) rfl))) (mvT hZ (hw _ (List.mem_of_getElem? (i := 26) rfl))) (mvT hZ (hw _ (List.mem_of_getElem? (i := 27) rfl))) (mvT hZ (hw _ (List.mem_of_getElem? (i := 28) rfl))) (by decide) (backOf (W := 0) (rmRun l Z a0 hw [] b7 u25 ku25 ys25 (own_vs ys25) T25.heap n0 Zs28 Fv25 Fc25 (own_z4 V25u (by omega)) (by omega) (own_pre_vs ys25 (by omega))) hZ (hw _ (List.mem_of_getElem? (i := 29) rfl)) (hw _ (List.mem_of_getElem? (i := 2) rfl)) (by decide) (by decide)) q37a q37b q37c (g := (mkF m 279 #[iv i1, iv i2, iv i3, iv i4, iv i5, iv ca, iv cb, iv cc, iv cd, iv (2 : Int32), iv (0 : Int32), rv b7, iv ca, iv cb, iv cc, iv cd, iv e2] [(.ref b7)])) rfl (by rw [hml]; rfl) (Steps.refl _) (argsL := []) (rest := []) (lenOf pd_5 rfl) rfl (by show 2 * 0 + _ ≤ _; exact Nat.le_of_eq rfl) (hb hby at_279) (fun _ _ => ⟨rfl, ej30, (by decide : 2 + 0 ≤ _), (by decide : 6 + 0 ≤ _)⟩)
    dsimp only [Pt.U, Pt.locs, Pt.cells, Pt.slots] at X37 l37 y37 z37 st37 hQ37
    subst l37 y37 z37
    obtain ⟨rfl, N37q, e37q⟩ := hQ37
    have N37 := Fr.app Nj30 N37q
    have e37 : T37.heap = T25.heap := e37q
    have pre38 : ∀ tg, own_S p e below T37 m 294 #[iv i1, iv i2, iv i3, iv i4, iv i5, iv ca, iv cb, iv cc, iv cd, iv (2 : Int32), iv (0 : Int32), rv b7, iv ca, iv cb, iv cc, iv cd, iv e2] [(.int (1 : Int32))] tg → Steps p.tables e below (s₁.setTop (entryFrame m #[(.int i1), (.int i2), (.int i3), (.int i4), (.int i5)] maxLocals)) tg := fun tg k => pre36 tg (by
      show own_S p e below Tj30 m 277 #[iv i1, iv i2, iv i3, iv i4, iv i5, iv ca, iv cb, iv cc, iv cd, iv (2 : Int32), iv (0 : Int32), rv b7, iv ca, iv cb, iv cc, iv cd, iv e2] [] _
      refine XS.aload Xj30.here hx rfl (hb hby at_277) rfl rfl ?_
      refine st37.trans ?_
      refine XS.iload X37.here hx rfl (hb hby at_284) rfl ?_
      show own_S p e below T37 m 286 #[iv i1, iv i2, iv i3, iv i4, iv i5, iv ca, iv cb, iv cc, iv cd, iv (2 : Int32), iv (0 : Int32), rv b7, iv ca, iv cb, iv cc, iv cd, iv e2] [(.int e2), (.int (own_runs ys25))] _
      refine XS.icmpNo X37.here hx rfl (hb hby at_286) rfl (teq hfin).2 ?_
      refine XS.iconst X37.here hx rfl (hb hby at_289) ?_
      refine XS.goto X37.here hx rfl (pc0 := 290) (pc' := 294) rfl (hb hby at_290) (by decide) (by decide) ?_
      exact k)
    obtain ⟨fs, hr, hrun, hended, hW, hsame⟩ := X37.leave (v := some (.int (nar .boolean (1 : Int32)))) (fun h => by rw [Bd.returns] at h; cases h)
    refine ⟨_, _, pre38 _ ?_, hrun, hended, _, _, rfl, ?_, ⟨_, rfl⟩, hW, hsame.mono (by decide) (by decide)⟩
    · show own_S p e below T37 m 294 #[iv i1, iv i2, iv i3, iv i4, iv i5, iv ca, iv cb, iv cc, iv cd, iv (2 : Int32), iv (0 : Int32), rv b7, iv ca, iv cb, iv cc, iv cd, iv e2] [(.int (1 : Int32))] _
      exact retN X37 hx (t := .boolean) Bd.returns (by simp) (hb hby at_294) hr
    · show Q0 Z i1 i2 i3 i4 i5 h0 n0 _ T37.heap _
      rw [e37]
      exact ⟨rfl, N37⟩
  ·  -- case
    have Zs40 : n0 ≤ T8.heap.size := (Nat.le_trans Zs9 K8.1)
    obtain ⟨cq39, kq39, q39a, q39b, q39c⟩ := isOf hZ rfl E8c
    obtain ⟨_, _, ⟨T39, L39, k39, n39⟩, -, X39, ⟨Lc39, hQ39, l39, y39, z39⟩, st39⟩ := X8.interfaceBack hx (xi := (⟨"com/example/bitstrata/bitstrata/Container", "add", "(C)Lcom/example/bitstrata/bitstrata/Container;"⟩ : MethodName)) (y := (⟨"com/example/bitstrata/bitstrata/ArrayContainer", "add", "(C)Lcom/example/bitstrata/bitstrata/Container;"⟩ : MethodName)) hown (mvT hZ (hw _ (List.mem_of_getElem? (i := 30) rfl))) (mvT hZ (hw _ (List.mem_of_getElem? (i := 31) rfl))) (mvT hZ (hw _ (List.mem_of_getElem? (i := 32) rfl))) (mvT hZ (hw _ (List.mem_of_getElem? (i := 33) rfl))) (mvT hZ (hw _ (List.mem_of_getElem? (i := 34) rfl))) (mvT hZ (hw _ (List.mem_of_getElem? (i := 35) rfl))) (mvT hZ (hw _ (List.mem_of_getElem? (i := 36) rfl))) (mvT hZ (hw _ (List.mem_of_getElem? (i := 28) rfl))) (by decide) (backOf (W := 0) (rmAdd l Z a0 hw [] b7 cb t8 k_8 [ca] T8.heap n0 Zs40 E8c g_b7 g_t8 Fv8 Fcb8 Vb8 ne_t8 (Nat.le_refl 1 : 1 ≤ [ca].length) (by omega) (trivial : own_srt [ca]) (by intro x hx; cases List.mem_singleton.mp hx; exact hk_ca : own_chs [ca]) hk_cb) hZ (hw _ (List.mem_of_getElem? (i := 37) rfl)) (hw _ (List.mem_of_getElem? (i := 2) rfl)) (by decide) (by decide)) q39a q39b q39c (g := (mkF m 59 #[iv i1, iv i2, iv i3, iv i4, iv i5, iv ca, iv cb, iv cc, iv cd, iv (2 : Int32), iv (1 : Int32), rv b7, .unset, .unset, .unset, .unset, .unset] [(.int cb), (.ref b7)])) rfl (by rw [hml]; rfl) (Steps.refl _) (argsL := [(.int cb)]) (rest := []) (lenOf pd_6 rfl) rfl (by show 2 * 0 + _ ≤ _; exact Nat.le_of_eq rfl) (hb hby at_59) (fun _ _ => ⟨rfl, rfl, (by decide : 2 + 0 ≤ _), (by decide : 6 + 0 ≤ _)⟩)
    dsimp only [Pt.U, Pt.locs, Pt.cells, Pt.slots] at X39 l39 y39 z39 st39 hQ39
    subst l39 y39 z39
    obtain ⟨ys39, u39, ku39, rfl, N39q, K39, E39c, Fv39, Fc39, V39u, g_u39, ne_u39, -, l1_39, l2_39, hs39, hch39, hm39⟩ := hQ39
    have N39 := Fr.app N8 N39q
    have Zs42 : n0 ≤ T39.heap.size := (Nat.le_trans Zs40 K39.1)
    obtain ⟨cq41, kq41, q41a, q41b, q41c⟩ := isOf hZ rfl E39c
    obtain ⟨_, _, ⟨T41, L41, k41, n41⟩, -, X41, ⟨Lc41, hQ41, l41, y41, z41⟩, st41⟩ := X39.interfaceBack hx (xi := (⟨"com/example/bitstrata/bitstrata/Container", "remove", "(C)Lcom/example/bitstrata/bitstrata/Container;"⟩ : MethodName)) (y := (⟨"com/example/bitstrata/bitstrata/ArrayContainer", "remove", "(C)Lcom/example/bitstrata/bitstrata/Container;"⟩ : MethodName)) hown (mvT hZ (hw _ (List.mem_of_getElem? (i := 52) rfl))) (mvT hZ (hw _ (List.mem_of_getElem? (i := 53) rfl))) (mvT hZ (hw _ (List.mem_of_getElem? (i := 54) rfl))) (mvT hZ (hw _ (List.mem_of_getElem? (i := 55) rfl))) (mvT hZ (hw _ (List.mem_of_getElem? (i := 56) rfl))) (mvT hZ (hw _ (List.mem_of_getElem? (i := 57) rfl))) (mvT hZ (hw _ (List.mem_of_getElem? (i := 58) rfl))) (mvT hZ (hw _ (List.mem_of_getElem? (i := 28) rfl))) (by decide) (backOf (W := 0) (rmRem l Z a0 hw [] b7 ca u39 ku39 ys39 T39.heap n0 Zs42 E39c g_b7 g_u39 Fv39 Fc39 V39u ne_u39 l1_39 (by omega) hs39 hch39 ((hm39 _).mpr (Or.inl ((hm8 _).mpr rfl)))) hZ (hw _ (List.mem_of_getElem? (i := 59) rfl)) (hw _ (List.mem_of_getElem? (i := 2) rfl)) (by decide) (by decide)) q41a q41b q41c (g := (mkF m 109 #[iv i1, iv i2, iv i3, iv i4, iv i5, iv ca, iv cb, iv cc, iv cd, iv (2 : Int32), iv (1 : Int32), rv b7, .unset, .unset, .unset, .unset, .unset] [(.int ca), (.ref b7)])) rfl (by rw [hml]; rfl) (Steps.refl _) (argsL := [(.int ca)]) (rest := []) (lenOf pd_6 rfl) rfl (by show 2 * 0 + _ ≤ _; exact Nat.le_of_eq rfl) (hb hby at_109) (fun _ _ => ⟨rfl, rfl, (by decide : 2 + 0 ≤ _), (by decide : 6 + 0 ≤ _)⟩)
    dsimp only [Pt.U, Pt.locs, Pt.cells, Pt.slots] at X41 l41 y41 z41 st41 hQ41
    subst l41 y41 z41
    obtain ⟨ys41, vs41, rfl, N41q, K41, E41c, Fv41, Fc41, V41u, l2_41, pr41, hs41, hch41, hm41⟩ := hQ41
    have N41 := Fr.app N39 N41q
    have Zs44 : n0 ≤ T41.heap.size := (Nat.le_trans Zs42 K41.1)
    obtain ⟨_, _, ⟨T43, L43, k43, n43⟩, -, X43, ⟨Lc43, hQ43, l43, y43, z43⟩, st43⟩ := Jvm.LawKit.callS X41 hx (y := (⟨"com/example/bitstrata/bitstrata/ArrayContainerRunCountPinLaw", "starts", "(IIIIIIZ)I"⟩ : MethodName)) hown (mvT hZ (hw _ (List.mem_of_getElem? (i := 14) rfl))) (mvT hZ (hw _ (List.mem_of_getElem? (i := 15) rfl))) (mvT hZ (hw _ (List.mem_of_getElem? (i := 16) rfl))) (mvT hZ (hw _ (List.mem_of_getElem? (i := 17) rfl))) (by decide) (backOf (W := 0) (rmSt l Z a0 hw [] ca ca cb cc cd (2 : Int32) (1 : Int32) T41.heap n0 Zs44 ) hZ (hw _ (List.mem_of_getElem? (i := 17) rfl)) (hw _ (List.mem_of_getElem? (i := 16) rfl)) (by decide) (by decide)) (g := (mkF m 146 #[iv i1, iv i2, iv i3, iv i4, iv i5, iv ca, iv cb, iv cc, iv cd, iv (2 : Int32), iv (1 : Int32), rv b7, iv ca, iv cb, iv cc, iv cd, .unset] [(.int (1 : Int32)), (.int (2 : Int32)), (.int cd), (.int cc), (.int cb), (.int ca), (.int ca)])) rfl (by rw [hml]; rfl) (argsL := [(.int ca), (.int ca), (.int cb), (.int cc), (.int cd), (.int (2 : Int32)), (.int (1 : Int32))]) (rest := []) (lenOf pd_4 rfl) rfl (by show 2 * 0 + _ ≤ _; exact Nat.le_of_eq rfl) (hb hby at_146) (fun _ _ => ⟨rfl, rfl, (by decide : 2 + 0 ≤ _), (by decide : 6 + 0 ≤ _)⟩)
    dsimp only [Pt.U, Pt.locs, Pt.cells, Pt.slots] at X43 l43 y43 z43 st43 hQ43
    subst l43 y43 z43
    obtain ⟨rfl, N43q, e43q⟩ := hQ43
    have N43 := Fr.app N41 N43q
    have e43 : T43.heap = T41.heap := e43q
    have pre45 : ∀ tg, own_S p e below T43 m 151 #[iv i1, iv i2, iv i3, iv i4, iv i5, iv ca, iv cb, iv cc, iv cd, iv (2 : Int32), iv (1 : Int32), rv b7, iv ca, iv cb, iv cc, iv cd, iv (own_st ca ca cb cc cd (2 : Int32) (1 : Int32))] [] tg → Steps p.tables e below (s₁.setTop (entryFrame m #[(.int i1), (.int i2), (.int i3), (.int i4), (.int i5)] maxLocals)) tg := fun tg k => pre10 tg (by
      show own_S p e below T8 m 49 #[iv i1, iv i2, iv i3, iv i4, iv i5, iv ca, iv cb, iv cc, iv cd, iv (2 : Int32), iv (1 : Int32), rv b7, .unset, .unset, .unset, .unset, .unset] [] _
      refine XS.iload X8.here hx rfl (hb hby at_49) rfl ?_
      refine XS.iconst X8.here hx rfl (hb hby at_51) ?_
      refine XS.icmpNo X8.here hx rfl (hb hby at_52) rfl (tlt (by decide : (1 : Int32) < (2 : Int32))).2.2.2 ?_
      show own_S p e below T8 m 55 #[iv i1, iv i2, iv i3, iv i4, iv i5, iv ca, iv cb, iv cc, iv cd, iv (2 : Int32), iv (1 : Int32), rv b7, .unset, .unset, .unset, .unset, .unset] [] _
      refine XS.aload X8.here hx rfl (hb hby at_55) rfl rfl ?_
      refine XS.iload X8.here hx rfl (hb hby at_57) rfl ?_
      refine st39.trans ?_
      show own_S p e below T39 m 64 #[iv i1, iv i2, iv i3, iv i4, iv i5, iv ca, iv cb, iv cc, iv cd, iv (2 : Int32), iv (1 : Int32), rv b7, .unset, .unset, .unset, .unset, .unset] [(.ref b7)] _
      refine XS.astore X39.here hx rfl (hb hby at_64) rfl rfl (l' := #[iv i1, iv i2, iv i3, iv i4, iv i5, iv ca, iv cb, iv cc, iv cd, iv (2 : Int32), iv (1 : Int32), rv b7, .unset, .unset, .unset, .unset, .unset]) rfl ?_
      refine XS.iload X39.here hx rfl (hb hby at_66) rfl ?_
      refine XS.iconst X39.here hx rfl (hb hby at_68) ?_
      show own_S p e below T39 m 69 #[iv i1, iv i2, iv i3, iv i4, iv i5, iv ca, iv cb, iv cc, iv cd, iv (2 : Int32), iv (1 : Int32), rv b7, .unset, .unset, .unset, .unset, .unset] [(.int (2 : Int32)), (.int (2 : Int32))] _
      refine XS.icmpYes X39.here hx rfl (pc0 := 69) (pc' := 83) rfl (hb hby at_69) rfl (flt (by decide : ¬ ((2 : Int32) < (2 : Int32)))).2.2.2 (by decide) (by decide) ?_
      refine XS.iload X39.here hx rfl (hb hby at_83) rfl ?_
      refine XS.iconst X39.here hx rfl (hb hby at_85) ?_
      show own_S p e below T39 m 86 #[iv i1, iv i2, iv i3, iv i4, iv i5, iv ca, iv cb, iv cc, iv cd, iv (2 : Int32), iv (1 : Int32), rv b7, .unset, .unset, .unset, .unset, .unset] [(.int (3 : Int32)), (.int (2 : Int32))] _
      refine XS.icmpYes X39.here hx rfl (pc0 := 86) (pc' := 100) rfl (hb hby at_86) rfl (flt (by decide : ¬ ((3 : Int32) < (2 : Int32)))).2.2.2 (by decide) (by decide) ?_
      refine XS.iload X39.here hx rfl (hb hby at_100) rfl ?_
      refine XS.ifNo X39.here hx rfl (hb hby at_102) rfl ((if0 _ _).trans (feq (by decide : ¬ ((1 : Int32) = (0 : Int32)))).1) ?_
      show own_S p e below T39 m 105 #[iv i1, iv i2, iv i3, iv i4, iv i5, iv ca, iv cb, iv cc, iv cd, iv (2 : Int32), iv (1 : Int32), rv b7, .unset, .unset, .unset, .unset, .unset] [] _
      refine XS.aload X39.here hx rfl (hb hby at_105) rfl rfl ?_
      refine XS.iload X39.here hx rfl (hb hby at_107) rfl ?_
      refine st41.trans ?_
      show own_S p e below T41 m 114 #[iv i1, iv i2, iv i3, iv i4, iv i5, iv ca, iv cb, iv cc, iv cd, iv (2 : Int32), iv (1 : Int32), rv b7, .unset, .unset, .unset, .unset, .unset] [(.ref b7)] _
      refine XS.astore X41.here hx rfl (hb hby at_114) rfl rfl (l' := #[iv i1, iv i2, iv i3, iv i4, iv i5, iv ca, iv cb, iv cc, iv cd, iv (2 : Int32), iv (1 : Int32), rv b7, .unset, .unset, .unset, .unset, .unset]) rfl ?_
      refine XS.iload X41.here hx rfl (hb hby at_116) rfl ?_
      refine XS.istore X41.here hx rfl (hb hby at_118) rfl (l' := #[iv i1, iv i2, iv i3, iv i4, iv i5, iv ca, iv cb, iv cc, iv cd, iv (2 : Int32), iv (1 : Int32), rv b7, iv ca, .unset, .unset, .unset, .unset]) rfl ?_
      show own_S p e below T41 m 120 #[iv i1, iv i2, iv i3, iv i4, iv i5, iv ca, iv cb, iv cc, iv cd, iv (2 : Int32), iv (1 : Int32), rv b7, iv ca, .unset, .unset, .unset, .unset] [] _
      refine XS.iload X41.here hx rfl (hb hby at_120) rfl ?_
      refine XS.istore X41.here hx rfl (hb hby at_122) rfl (l' := #[iv i1, iv i2, iv i3, iv i4, iv i5, iv ca, iv cb, iv cc, iv cd, iv (2 : Int32), iv (1 : Int32), rv b7, iv ca, iv cb, .unset, .unset, .unset]) rfl ?_
      refine XS.iload X41.here hx rfl (hb hby at_124) rfl ?_
      show own_S p e below T41 m 126 #[iv i1, iv i2, iv i3, iv i4, iv i5, iv ca, iv cb, iv cc, iv cd, iv (2 : Int32), iv (1 : Int32), rv b7, iv ca, iv cb, .unset, .unset, .unset] [(.int cc)] _
      refine XS.istore X41.here hx rfl (hb hby at_126) rfl (l' := #[iv i1, iv i2, iv i3, iv i4, iv i5, iv ca, iv cb, iv cc, iv cd, iv (2 : Int32), iv (1 : Int32), rv b7, iv ca, iv cb, iv cc, .unset, .unset]) rfl ?_
      refine XS.iload X41.here hx rfl (hb hby at_128) rfl ?_
      refine XS.istore X41.here hx rfl (hb hby at_130) rfl (l' := #[iv i1, iv i2, iv i3, iv i4, iv i5, iv ca, iv cb, iv cc, iv cd, iv (2 : Int32), iv (1 : Int32), rv b7, iv ca, iv cb, iv cc, iv cd, .unset]) rfl ?_
      show own_S p e below T41 m 132 #[iv i1, iv i2, iv i3, iv i4, iv i5, iv ca, iv cb, iv cc, iv cd, iv (2 : Int32), iv (1 : Int32), rv b7, iv ca, iv cb, iv cc, iv cd, .unset] [] _
      refine XS.iload X41.here hx rfl (hb hby at_132) rfl ?_
      refine XS.iload X41.here hx rfl (hb hby at_134) rfl ?_
      refine XS.iload X41.here hx rfl (hb hby at_136) rfl ?_
      show own_S p e below T41 m 138 #[iv i1, iv i2, iv i3, iv i4, iv i5, iv ca, iv cb, iv cc, iv cd, iv (2 : Int32), iv (1 : Int32), rv b7, iv ca, iv cb, iv cc, iv cd, .unset] [(.int cb), (.int ca), (.int ca)] _
      refine XS.iload X41.here hx rfl (hb hby at_138) rfl ?_
      refine XS.iload X41.here hx rfl (hb hby at_140) rfl ?_
      refine XS.iload X41.here hx rfl (hb hby at_142) rfl ?_
      show own_S p e below T41 m 144 #[iv i1, iv i2, iv i3, iv i4, iv i5, iv ca, iv cb, iv cc, iv cd, iv (2 : Int32), iv (1 : Int32), rv b7, iv ca, iv cb, iv cc, iv cd, .unset] [(.int (2 : Int32)), (.int cd), (.int cc), (.int cb), (.int ca), (.int ca)] _
      refine XS.iload X41.here hx rfl (hb hby at_144) rfl ?_
      refine st43 _ ?_
      refine XS.istore X43.here hx rfl (hb hby at_149) rfl (l' := #[iv i1, iv i2, iv i3, iv i4, iv i5, iv ca, iv cb, iv cc, iv cd, iv (2 : Int32), iv (1 : Int32), rv b7, iv ca, iv cb, iv cc, iv cd, iv (own_st ca ca cb cc cd (2 : Int32) (1 : Int32))]) rfl ?_
      exact k)
    obtain ⟨e1, he1⟩ : ∃ z, z = own_st ca ca cb cc cd (2 : Int32) (1 : Int32) := ⟨_, rfl⟩
    rw [← he1] at pre45
    obtain ⟨Tj46, Lj46, Xj46, ej46, Nj46, e2, h_e2, prej46⟩ : ∃ (Tj : State) (Lj : List Loc), Stand p l e room_1 s m #[(.int i1), (.int i2), (.int i3), (.int i4), (.int i5)] below meth c Tj Lj 2 6 ∧ Tj.heap = T41.heap ∧ Fr n0 Lj ∧ ∃ e2 : Int32, (((cb = ca) ∧ e2 = e1) ∨ (¬ (cb = ca) ∧ e2 = e1 + own_st cb ca cb cc cd (2 : Int32) (1 : Int32))) ∧ ∀ tg, own_S p e below Tj m 186 #[iv i1, iv i2, iv i3, iv i4, iv i5, iv ca, iv cb, iv cc, iv cd, iv (2 : Int32), iv (1 : Int32), rv b7, iv ca, iv cb, iv cc, iv cd, iv e2] [] tg → Steps p.tables e below (s₁.setTop (entryFrame m #[(.int i1), (.int i2), (.int i3), (.int i4), (.int i5)] maxLocals)) tg := by
      have pre48 : ∀ tg, own_S p e below T43 m 161 #[iv i1, iv i2, iv i3, iv i4, iv i5, iv ca, iv cb, iv cc, iv cd, iv (2 : Int32), iv (1 : Int32), rv b7, iv ca, iv cb, iv cc, iv cd, iv e1] [(.int ca), (.int cb)] tg → Steps p.tables e below (s₁.setTop (entryFrame m #[(.int i1), (.int i2), (.int i3), (.int i4), (.int i5)] maxLocals)) tg := fun tg k => pre45 tg (by
        show own_S p e below T43 m 151 #[iv i1, iv i2, iv i3, iv i4, iv i5, iv ca, iv cb, iv cc, iv cd, iv (2 : Int32), iv (1 : Int32), rv b7, iv ca, iv cb, iv cc, iv cd, iv e1] [] _
        refine XS.iload X43.here hx rfl (hb hby at_151) rfl ?_
        refine XS.iconst X43.here hx rfl (hb hby at_153) ?_
        refine XS.icmpNo X43.here hx rfl (hb hby at_154) rfl (tlt (by decide : (1 : Int32) < (2 : Int32))).2.2.2 ?_
        show own_S p e below T43 m 157 #[iv i1, iv i2, iv i3, iv i4, iv i5, iv ca, iv cb, iv cc, iv cd, iv (2 : Int32), iv (1 : Int32), rv b7, iv ca, iv cb, iv cc, iv cd, iv e1] [] _
        refine XS.iload X43.here hx rfl (hb hby at_157) rfl ?_
        refine XS.iload X43.here hx rfl (hb hby at_159) rfl ?_
        exact k)
      by_cases hc161_47 : cb = ca
      ·  -- pc 161 yes
        have pre49 : ∀ tg, own_S p e below T43 m 186 #[iv i1, iv i2, iv i3, iv i4, iv i5, iv ca, iv cb, iv cc, iv cd, iv (2 : Int32), iv (1 : Int32), rv b7, iv ca, iv cb, iv cc, iv cd, iv e1] [] tg → Steps p.tables e below (s₁.setTop (entryFrame m #[(.int i1), (.int i2), (.int i3), (.int i4), (.int i5)] maxLocals)) tg := fun tg k => pre48 tg (by
          show own_S p e below T43 m 161 #[iv i1, iv i2, iv i3, iv i4, iv i5, iv ca, iv cb, iv cc, iv cd, iv (2 : Int32), iv (1 : Int32), rv b7, iv ca, iv cb, iv cc, iv cd, iv e1] [(.int ca), (.int cb)] _
          refine XS.icmpYes X43.here hx rfl (pc0 := 161) (pc' := 186) rfl (hb hby at_161) rfl (teq hc161_47).1 (by decide) (by decide) ?_
          exact k)
        exact ⟨T43, _, X43, e43, N43, e1, (by first | exact Or.inl ⟨by simp [hc161_47], rfl⟩ | exact Or.inr ⟨by simp [hc161_47], rfl⟩), pre49⟩
      ·  -- pc 161 no
        obtain ⟨_, _, ⟨T50, L50, k50, n50⟩, -, X50, ⟨Lc50, hQ50, l50, y50, z50⟩, st50⟩ := Jvm.LawKit.callS X43 hx (y := (⟨"com/example/bitstrata/bitstrata/ArrayContainerRunCountPinLaw", "starts", "(IIIIIIZ)I"⟩ : MethodName)) hown (mvT hZ (hw _ (List.mem_of_getElem? (i := 14) rfl))) (mvT hZ (hw _ (List.mem_of_getElem? (i := 15) rfl))) (mvT hZ (hw _ (List.mem_of_getElem? (i := 16) rfl))) (mvT hZ (hw _ (List.mem_of_getElem? (i := 17) rfl))) (by decide) (backOf (W := 1) (rmSt l Z a0 hw [] cb ca cb cc cd (2 : Int32) (1 : Int32) T41.heap n0 Zs44 ) hZ (hw _ (List.mem_of_getElem? (i := 17) rfl)) (hw _ (List.mem_of_getElem? (i := 16) rfl)) (by decide) (by decide)) (g := (mkF m 180 #[iv i1, iv i2, iv i3, iv i4, iv i5, iv ca, iv cb, iv cc, iv cd, iv (2 : Int32), iv (1 : Int32), rv b7, iv ca, iv cb, iv cc, iv cd, iv e1] [(.int (1 : Int32)), (.int (2 : Int32)), (.int cd), (.int cc), (.int cb), (.int ca), (.int cb), (.int e1)])) rfl (by rw [hml]; rfl) (argsL := [(.int cb), (.int ca), (.int cb), (.int cc), (.int cd), (.int (2 : Int32)), (.int (1 : Int32))]) (rest := [(.int e1)]) (lenOf pd_4 rfl) rfl (by show 2 * 0 + _ ≤ _; exact Nat.le_of_eq rfl) (hb hby at_180) (fun _ _ => ⟨rfl, e43, (by decide : 2 + 0 ≤ _), (by decide : 6 + 0 ≤ _)⟩)
        dsimp only [Pt.U, Pt.locs, Pt.cells, Pt.slots] at X50 l50 y50 z50 st50 hQ50
        subst l50 y50 z50
        obtain ⟨rfl, N50q, e50q⟩ := hQ50
        have N50 := Fr.app N43 N50q
        have e50 : T50.heap = T41.heap := e50q
        have pre51 : ∀ tg, own_S p e below T50 m 186 #[iv i1, iv i2, iv i3, iv i4, iv i5, iv ca, iv cb, iv cc, iv cd, iv (2 : Int32), iv (1 : Int32), rv b7, iv ca, iv cb, iv cc, iv cd, iv (e1 + (own_st cb ca cb cc cd (2 : Int32) (1 : Int32)))] [] tg → Steps p.tables e below (s₁.setTop (entryFrame m #[(.int i1), (.int i2), (.int i3), (.int i4), (.int i5)] maxLocals)) tg := fun tg k => pre48 tg (by
          show own_S p e below T43 m 161 #[iv i1, iv i2, iv i3, iv i4, iv i5, iv ca, iv cb, iv cc, iv cd, iv (2 : Int32), iv (1 : Int32), rv b7, iv ca, iv cb, iv cc, iv cd, iv e1] [(.int ca), (.int cb)] _
          refine XS.icmpNo X43.here hx rfl (hb hby at_161) rfl (feq hc161_47).1 ?_
          refine XS.iload X43.here hx rfl (hb hby at_164) rfl ?_
          refine XS.iload X43.here hx rfl (hb hby at_166) rfl ?_
          show own_S p e below T43 m 168 #[iv i1, iv i2, iv i3, iv i4, iv i5, iv ca, iv cb, iv cc, iv cd, iv (2 : Int32), iv (1 : Int32), rv b7, iv ca, iv cb, iv cc, iv cd, iv e1] [(.int cb), (.int e1)] _
          refine XS.iload X43.here hx rfl (hb hby at_168) rfl ?_
          refine XS.iload X43.here hx rfl (hb hby at_170) rfl ?_
          refine XS.iload X43.here hx rfl (hb hby at_172) rfl ?_
          show own_S p e below T43 m 174 #[iv i1, iv i2, iv i3, iv i4, iv i5, iv ca, iv cb, iv cc, iv cd, iv (2 : Int32), iv (1 : Int32), rv b7, iv ca, iv cb, iv cc, iv cd, iv e1] [(.int cc), (.int cb), (.int ca), (.int cb), (.int e1)] _
          refine XS.iload X43.here hx rfl (hb hby at_174) rfl ?_
          refine XS.iload X43.here hx rfl (hb hby at_176) rfl ?_
          refine XS.iload X43.here hx rfl (hb hby at_178) rfl ?_
          show own_S p e below T43 m 180 #[iv i1, iv i2, iv i3, iv i4, iv i5, iv ca, iv cb, iv cc, iv cd, iv (2 : Int32), iv (1 : Int32), rv b7, iv ca, iv cb, iv cc, iv cd, iv e1] [(.int (1 : Int32)), (.int (2 : Int32)), (.int cd), (.int cc), (.int cb), (.int ca), (.int cb), (.int e1)] _
          refine st50 _ ?_
          refine XS.iadd X50.here hx rfl (hb hby at_183) rfl ?_
          refine XS.istore X50.here hx rfl (hb hby at_184) rfl (l' := #[iv i1, iv i2, iv i3, iv i4, iv i5, iv ca, iv cb, iv cc, iv cd, iv (2 : Int32), iv (1 : Int32), rv b7, iv ca, iv cb, iv cc, iv cd, iv (e1 + (own_st cb ca cb cc cd (2 : Int32) (1 : Int32)))]) rfl ?_
          exact k)
        exact ⟨T50, _, X50, e50, N50, (e1 + (own_st cb ca cb cc cd (2 : Int32) (1 : Int32))), (by first | exact Or.inl ⟨by simp [hc161_47], rfl⟩ | exact Or.inr ⟨by simp [hc161_47], rfl⟩), pre51⟩
    have pre52 : ∀ tg, own_S p e below Tj46 m 277 #[iv i1, iv i2, iv i3, iv i4, iv i5, iv ca, iv cb, iv cc, iv cd, iv (2 : Int32), iv (1 : Int32), rv b7, iv ca, iv cb, iv cc, iv cd, iv e2] [] tg → Steps p.tables e below (s₁.setTop (entryFrame m #[(.int i1), (.int i2), (.int i3), (.int i4), (.int i5)] maxLocals)) tg := fun tg k => prej46 tg (by
      show own_S p e below Tj46 m 186 #[iv i1, iv i2, iv i3, iv i4, iv i5, iv ca, iv cb, iv cc, iv cd, iv (2 : Int32), iv (1 : Int32), rv b7, iv ca, iv cb, iv cc, iv cd, iv e2] [] _
      refine XS.iload Xj46.here hx rfl (hb hby at_186) rfl ?_
      refine XS.iconst Xj46.here hx rfl (hb hby at_188) ?_
      refine XS.icmpYes Xj46.here hx rfl (pc0 := 189) (pc' := 228) rfl (hb hby at_189) rfl (flt (by decide : ¬ ((2 : Int32) < (2 : Int32)))).2.2.2 (by decide) (by decide) ?_
      show own_S p e below Tj46 m 228 #[iv i1, iv i2, iv i3, iv i4, iv i5, iv ca, iv cb, iv cc, iv cd, iv (2 : Int32), iv (1 : Int32), rv b7, iv ca, iv cb, iv cc, iv cd, iv e2] [] _
      refine XS.iload Xj46.here hx rfl (hb hby at_228) rfl ?_
      refine XS.iconst Xj46.here hx rfl (hb hby at_230) ?_
      refine XS.icmpYes Xj46.here hx rfl (pc0 := 231) (pc' := 277) rfl (hb hby at_231) rfl (flt (by decide : ¬ ((3 : Int32) < (2 : Int32)))).2.2.2 (by decide) (by decide) ?_
      exact k)
    obtain ⟨dd, hdd, hsum, hmd⟩ := own_dd2 (fun x => own_st x ca cb cc cd (2 : Int32) (1 : Int32)) ca cb e1 e2 he1 h_e2
    have hset : ∀ x, x ∈ ys41 ↔ own_set ca cb cc cd (2 : Int32) (1 : Int32) x := fun x => by
      rw [hm41]; rw [hm39]; rw [hm8]
      simp only [own_set, (by decide : (1 : Int32) < 2), (by decide : ¬ (2 : Int32) < 2), (by decide : ¬ (3 : Int32) < 2), true_and, false_and, or_false, false_or, (by decide : ¬ (1 : Int32) = 0), and_true, and_false]
      try (by_cases q : x = ca <;> simp [q, or_assoc])
    have hfin : own_runs ys41 = e2 := by
      rw [hsum]
      refine own_plain hs41 (own_rng_of hch41) hdd (fun x hx => (hmd x).mpr ?_) (fun x => own_st_f hset x)
      have := (hset x).mp hx
      simp only [own_set, (by decide : (1 : Int32) < 2), (by decide : ¬ (2 : Int32) < 2), (by decide : ¬ (3 : Int32) < 2), true_and, false_and, or_false, false_or] at this
      rcases this with this | this
      · simp [this.1]
      · simp [this.2]
    obtain ⟨cq53, kq53, q53a, q53b, q53c⟩ := isOf hZ ej46 E41c
    obtain ⟨_, _, ⟨T53, L53, k53, n53⟩, -, X53, ⟨Lc53, hQ53, l53, y53, z53⟩, st53⟩ := Xj46.interfaceBack hx (xi := (⟨"com/example/bitstrata/bitstrata/Container", "runCount", "()I"⟩ : MethodName)) (y := (⟨"com/example/bitstrata/bitstrata/ArrayContainer", "runCount", "()I"⟩ : MethodName)) hown (mvT hZ (hw _ (List.mem_of_getElem? (i := 21) rfl))) (mvT hZ (hw _ (List.mem_of_getElem? (i := 22) rfl))) (mvT hZ (hw _ (List.mem_of_getElem? (i := 23) rfl))) (mvT hZ (hw _ (List.mem_of_getElem? (i := 24) rfl))) (mvT hZ (hw _ (List.mem_of_getElem? (i := 25) rfl))) (mvT hZ (hw _ (List.mem_of_getElem? (i := 26) rfl))) (mvT hZ (hw _ (List.mem_of_getElem? (i := 27) rfl))) (mvT hZ (hw _ (List.mem_of_getElem? (i := 28) rfl))) (by decide) (backOf (W := 0) (rmRun l Z a0 hw [] b7 u39 ku39 ys41 vs41 T41.heap n0 Zs44 Fv41 Fc41 V41u l2_41 pr41) hZ (hw _ (List.mem_of_getElem? (i := 29) rfl)) (hw _ (List.mem_of_getElem? (i := 2) rfl)) (by decide) (by decide)) q53a q53b q53c (g := (mkF m 279 #[iv i1, iv i2, iv i3, iv i4, iv i5, iv ca, iv cb, iv cc, iv cd, iv (2 : Int32), iv (1 : Int32), rv b7, iv ca, iv cb, iv cc, iv cd, iv e2] [(.ref b7)])) rfl (by rw [hml]; rfl) (Steps.refl _) (argsL := []) (rest := []) (lenOf pd_5 rfl) rfl (by show 2 * 0 + _ ≤ _; exact Nat.le_of_eq rfl) (hb hby at_279) (fun _ _ => ⟨rfl, ej46, (by decide : 2 + 0 ≤ _), (by decide : 6 + 0 ≤ _)⟩)
    dsimp only [Pt.U, Pt.locs, Pt.cells, Pt.slots] at X53 l53 y53 z53 st53 hQ53
    subst l53 y53 z53
    obtain ⟨rfl, N53q, e53q⟩ := hQ53
    have N53 := Fr.app Nj46 N53q
    have e53 : T53.heap = T41.heap := e53q
    have pre54 : ∀ tg, own_S p e below T53 m 294 #[iv i1, iv i2, iv i3, iv i4, iv i5, iv ca, iv cb, iv cc, iv cd, iv (2 : Int32), iv (1 : Int32), rv b7, iv ca, iv cb, iv cc, iv cd, iv e2] [(.int (1 : Int32))] tg → Steps p.tables e below (s₁.setTop (entryFrame m #[(.int i1), (.int i2), (.int i3), (.int i4), (.int i5)] maxLocals)) tg := fun tg k => pre52 tg (by
      show own_S p e below Tj46 m 277 #[iv i1, iv i2, iv i3, iv i4, iv i5, iv ca, iv cb, iv cc, iv cd, iv (2 : Int32), iv (1 : Int32), rv b7, iv ca, iv cb, iv cc, iv cd, iv e2] [] _
      refine XS.aload Xj46.here hx rfl (hb hby at_277) rfl rfl ?_
      refine st53.trans ?_
      refine XS.iload X53.here hx rfl (hb hby at_284) rfl ?_
      show own_S p e below T53 m 286 #[iv i1, iv i2, iv i3, iv i4, iv i5, iv ca, iv cb, iv cc, iv cd, iv (2 : Int32), iv (1 : Int32), rv b7, iv ca, iv cb, iv cc, iv cd, iv e2] [(.int e2), (.int (own_runs ys41))] _
      refine XS.icmpNo X53.here hx rfl (hb hby at_286) rfl (teq hfin).2 ?_
      refine XS.iconst X53.here hx rfl (hb hby at_289) ?_
      refine XS.goto X53.here hx rfl (pc0 := 290) (pc' := 294) rfl (hb hby at_290) (by decide) (by decide) ?_
      exact k)
    obtain ⟨fs, hr, hrun, hended, hW, hsame⟩ := X53.leave (v := some (.int (nar .boolean (1 : Int32)))) (fun h => by rw [Bd.returns] at h; cases h)
    refine ⟨_, _, pre54 _ ?_, hrun, hended, _, _, rfl, ?_, ⟨_, rfl⟩, hW, hsame.mono (by decide) (by decide)⟩
    · show own_S p e below T53 m 294 #[iv i1, iv i2, iv i3, iv i4, iv i5, iv ca, iv cb, iv cc, iv cd, iv (2 : Int32), iv (1 : Int32), rv b7, iv ca, iv cb, iv cc, iv cd, iv e2] [(.int (1 : Int32))] _
      exact retN X53 hx (t := .boolean) Bd.returns (by simp) (hb hby at_294) hr
    · show Q0 Z i1 i2 i3 i4 i5 h0 n0 _ T53.heap _
      rw [e53]
      exact ⟨rfl, N53⟩
  ·  -- case
    have Zs56 : n0 ≤ T8.heap.size := (Nat.le_trans Zs9 K8.1)
    obtain ⟨cq55, kq55, q55a, q55b, q55c⟩ := isOf hZ rfl E8c
    obtain ⟨_, _, ⟨T55, L55, k55, n55⟩, -, X55, ⟨Lc55, hQ55, l55, y55, z55⟩, st55⟩ := X8.interfaceBack hx (xi := (⟨"com/example/bitstrata/bitstrata/Container", "add", "(C)Lcom/example/bitstrata/bitstrata/Container;"⟩ : MethodName)) (y := (⟨"com/example/bitstrata/bitstrata/ArrayContainer", "add", "(C)Lcom/example/bitstrata/bitstrata/Container;"⟩ : MethodName)) hown (mvT hZ (hw _ (List.mem_of_getElem? (i := 30) rfl))) (mvT hZ (hw _ (List.mem_of_getElem? (i := 31) rfl))) (mvT hZ (hw _ (List.mem_of_getElem? (i := 32) rfl))) (mvT hZ (hw _ (List.mem_of_getElem? (i := 33) rfl))) (mvT hZ (hw _ (List.mem_of_getElem? (i := 34) rfl))) (mvT hZ (hw _ (List.mem_of_getElem? (i := 35) rfl))) (mvT hZ (hw _ (List.mem_of_getElem? (i := 36) rfl))) (mvT hZ (hw _ (List.mem_of_getElem? (i := 28) rfl))) (by decide) (backOf (W := 0) (rmAdd l Z a0 hw [] b7 cb t8 k_8 [ca] T8.heap n0 Zs56 E8c g_b7 g_t8 Fv8 Fcb8 Vb8 ne_t8 (Nat.le_refl 1 : 1 ≤ [ca].length) (by omega) (trivial : own_srt [ca]) (by intro x hx; cases List.mem_singleton.mp hx; exact hk_ca : own_chs [ca]) hk_cb) hZ (hw _ (List.mem_of_getElem? (i := 37) rfl)) (hw _ (List.mem_of_getElem? (i := 2) rfl)) (by decide) (by decide)) q55a q55b q55c (g := (mkF m 59 #[iv i1, iv i2, iv i3, iv i4, iv i5, iv ca, iv cb, iv cc, iv cd, iv (3 : Int32), iv (0 : Int32), rv b7, .unset, .unset, .unset, .unset, .unset] [(.int cb), (.ref b7)])) rfl (by rw [hml]; rfl) (Steps.refl _) (argsL := [(.int cb)]) (rest := []) (lenOf pd_6 rfl) rfl (by show 2 * 0 + _ ≤ _; exact Nat.le_of_eq rfl) (hb hby at_59) (fun _ _ => ⟨rfl, rfl, (by decide : 2 + 0 ≤ _), (by decide : 6 + 0 ≤ _)⟩)
    dsimp only [Pt.U, Pt.locs, Pt.cells, Pt.slots] at X55 l55 y55 z55 st55 hQ55
    subst l55 y55 z55
    obtain ⟨ys55, u55, ku55, rfl, N55q, K55, E55c, Fv55, Fc55, V55u, g_u55, ne_u55, -, l1_55, l2_55, hs55, hch55, hm55⟩ := hQ55
    have N55 := Fr.app N8 N55q
    have Zs58 : n0 ≤ T55.heap.size := (Nat.le_trans Zs56 K55.1)
    obtain ⟨cq57, kq57, q57a, q57b, q57c⟩ := isOf hZ rfl E55c
    obtain ⟨_, _, ⟨T57, L57, k57, n57⟩, -, X57, ⟨Lc57, hQ57, l57, y57, z57⟩, st57⟩ := X55.interfaceBack hx (xi := (⟨"com/example/bitstrata/bitstrata/Container", "add", "(C)Lcom/example/bitstrata/bitstrata/Container;"⟩ : MethodName)) (y := (⟨"com/example/bitstrata/bitstrata/ArrayContainer", "add", "(C)Lcom/example/bitstrata/bitstrata/Container;"⟩ : MethodName)) hown (mvT hZ (hw _ (List.mem_of_getElem? (i := 30) rfl))) (mvT hZ (hw _ (List.mem_of_getElem? (i := 31) rfl))) (mvT hZ (hw _ (List.mem_of_getElem? (i := 32) rfl))) (mvT hZ (hw _ (List.mem_of_getElem? (i := 33) rfl))) (mvT hZ (hw _ (List.mem_of_getElem? (i := 34) rfl))) (mvT hZ (hw _ (List.mem_of_getElem? (i := 35) rfl))) (mvT hZ (hw _ (List.mem_of_getElem? (i := 36) rfl))) (mvT hZ (hw _ (List.mem_of_getElem? (i := 28) rfl))) (by decide) (backOf (W := 0) (rmAdd l Z a0 hw [] b7 cc u55 ku55 ys55 T55.heap n0 Zs58 E55c g_b7 g_u55 Fv55 Fc55 V55u ne_u55 l1_55 (by omega) hs55 hch55 hk_cc) hZ (hw _ (List.mem_of_getElem? (i := 37) rfl)) (hw _ (List.mem_of_getElem? (i := 2) rfl)) (by decide) (by decide)) q57a q57b q57c (g := (mkF m 76 #[iv i1, iv i2, iv i3, iv i4, iv i5, iv ca, iv cb, iv cc, iv cd, iv (3 : Int32), iv (0 : Int32), rv b7, .unset, .unset, .unset, .unset, .unset] [(.int cc), (.ref b7)])) rfl (by rw [hml]; rfl) (Steps.refl _) (argsL := [(.int cc)]) (rest := []) (lenOf pd_6 rfl) rfl (by show 2 * 0 + _ ≤ _; exact Nat.le_of_eq rfl) (hb hby at_76) (fun _ _ => ⟨rfl, rfl, (by decide : 2 + 0 ≤ _), (by decide : 6 + 0 ≤ _)⟩)
    dsimp only [Pt.U, Pt.locs, Pt.cells, Pt.slots] at X57 l57 y57 z57 st57 hQ57
    subst l57 y57 z57
    obtain ⟨ys57, u57, ku57, rfl, N57q, K57, E57c, Fv57, Fc57, V57u, g_u57, ne_u57, -, l1_57, l2_57, hs57, hch57, hm57⟩ := hQ57
    have N57 := Fr.app N55 N57q
    have Zs60 : n0 ≤ T57.heap.size := (Nat.le_trans Zs58 K57.1)
    obtain ⟨_, _, ⟨T59, L59, k59, n59⟩, -, X59, ⟨Lc59, hQ59, l59, y59, z59⟩, st59⟩ := Jvm.LawKit.callS X57 hx (y := (⟨"com/example/bitstrata/bitstrata/ArrayContainerRunCountPinLaw", "starts", "(IIIIIIZ)I"⟩ : MethodName)) hown (mvT hZ (hw _ (List.mem_of_getElem? (i := 14) rfl))) (mvT hZ (hw _ (List.mem_of_getElem? (i := 15) rfl))) (mvT hZ (hw _ (List.mem_of_getElem? (i := 16) rfl))) (mvT hZ (hw _ (List.mem_of_getElem? (i := 17) rfl))) (by decide) (backOf (W := 0) (rmSt l Z a0 hw [] ca ca cb cc cd (3 : Int32) (0 : Int32) T57.heap n0 Zs60 ) hZ (hw _ (List.mem_of_getElem? (i := 17) rfl)) (hw _ (List.mem_of_getElem? (i := 16) rfl)) (by decide) (by decide)) (g := (mkF m 146 #[iv i1, iv i2, iv i3, iv i4, iv i5, iv ca, iv cb, iv cc, iv cd, iv (3 : Int32), iv (0 : Int32), rv b7, iv ca, iv cb, iv cc, iv cd, .unset] [(.int (0 : Int32)), (.int (3 : Int32)), (.int cd), (.int cc), (.int cb), (.int ca), (.int ca)])) rfl (by rw [hml]; rfl) (argsL := [(.int ca), (.int ca), (.int cb), (.int cc), (.int cd), (.int (3 : Int32)), (.int (0 : Int32))]) (rest := []) (lenOf pd_4 rfl) rfl (by show 2 * 0 + _ ≤ _; exact Nat.le_of_eq rfl) (hb hby at_146) (fun _ _ => ⟨rfl, rfl, (by decide : 2 + 0 ≤ _), (by decide : 6 + 0 ≤ _)⟩)
    dsimp only [Pt.U, Pt.locs, Pt.cells, Pt.slots] at X59 l59 y59 z59 st59 hQ59
    subst l59 y59 z59
    obtain ⟨rfl, N59q, e59q⟩ := hQ59
    have N59 := Fr.app N57 N59q
    have e59 : T59.heap = T57.heap := e59q
    have pre61 : ∀ tg, own_S p e below T59 m 151 #[iv i1, iv i2, iv i3, iv i4, iv i5, iv ca, iv cb, iv cc, iv cd, iv (3 : Int32), iv (0 : Int32), rv b7, iv ca, iv cb, iv cc, iv cd, iv (own_st ca ca cb cc cd (3 : Int32) (0 : Int32))] [] tg → Steps p.tables e below (s₁.setTop (entryFrame m #[(.int i1), (.int i2), (.int i3), (.int i4), (.int i5)] maxLocals)) tg := fun tg k => pre10 tg (by
      show own_S p e below T8 m 49 #[iv i1, iv i2, iv i3, iv i4, iv i5, iv ca, iv cb, iv cc, iv cd, iv (3 : Int32), iv (0 : Int32), rv b7, .unset, .unset, .unset, .unset, .unset] [] _
      refine XS.iload X8.here hx rfl (hb hby at_49) rfl ?_
      refine XS.iconst X8.here hx rfl (hb hby at_51) ?_
      refine XS.icmpNo X8.here hx rfl (hb hby at_52) rfl (tlt (by decide : (1 : Int32) < (3 : Int32))).2.2.2 ?_
      show own_S p e below T8 m 55 #[iv i1, iv i2, iv i3, iv i4, iv i5, iv ca, iv cb, iv cc, iv cd, iv (3 : Int32), iv (0 : Int32), rv b7, .unset, .unset, .unset, .unset, .unset] [] _
      refine XS.aload X8.here hx rfl (hb hby at_55) rfl rfl ?_
      refine XS.iload X8.here hx rfl (hb hby at_57) rfl ?_
      refine st55.trans ?_
      show own_S p e below T55 m 64 #[iv i1, iv i2, iv i3, iv i4, iv i5, iv ca, iv cb, iv cc, iv cd, iv (3 : Int32), iv (0 : Int32), rv b7, .unset, .unset, .unset, .unset, .unset] [(.ref b7)] _
      refine XS.astore X55.here hx rfl (hb hby at_64) rfl rfl (l' := #[iv i1, iv i2, iv i3, iv i4, iv i5, iv ca, iv cb, iv cc, iv cd, iv (3 : Int32), iv (0 : Int32), rv b7, .unset, .unset, .unset, .unset, .unset]) rfl ?_
      refine XS.iload X55.here hx rfl (hb hby at_66) rfl ?_
      refine XS.iconst X55.here hx rfl (hb hby at_68) ?_
      show own_S p e below T55 m 69 #[iv i1, iv i2, iv i3, iv i4, iv i5, iv ca, iv cb, iv cc, iv cd, iv (3 : Int32), iv (0 : Int32), rv b7, .unset, .unset, .unset, .unset, .unset] [(.int (2 : Int32)), (.int (3 : Int32))] _
      refine XS.icmpNo X55.here hx rfl (hb hby at_69) rfl (tlt (by decide : (2 : Int32) < (3 : Int32))).2.2.2 ?_
      refine XS.aload X55.here hx rfl (hb hby at_72) rfl rfl ?_
      refine XS.iload X55.here hx rfl (hb hby at_74) rfl ?_
      show own_S p e below T55 m 76 #[iv i1, iv i2, iv i3, iv i4, iv i5, iv ca, iv cb, iv cc, iv cd, iv (3 : Int32), iv (0 : Int32), rv b7, .unset, .unset, .unset, .unset, .unset] [(.int cc), (.ref b7)] _
      refine st57.trans ?_
      refine XS.astore X57.here hx rfl (hb hby at_81) rfl rfl (l' := #[iv i1, iv i2, iv i3, iv i4, iv i5, iv ca, iv cb, iv cc, iv cd, iv (3 : Int32), iv (0 : Int32), rv b7, .unset, .unset, .unset, .unset, .unset]) rfl ?_
      refine XS.iload X57.here hx rfl (hb hby at_83) rfl ?_
      show own_S p e below T57 m 85 #[iv i1, iv i2, iv i3, iv i4, iv i5, iv ca, iv cb, iv cc, iv cd, iv (3 : Int32), iv (0 : Int32), rv b7, .unset, .unset, .unset, .unset, .unset] [(.int (3 : Int32))] _
      refine XS.iconst X57.here hx rfl (hb hby at_85) ?_
      refine XS.icmpYes X57.here hx rfl (pc0 := 86) (pc' := 100) rfl (hb hby at_86) rfl (flt (by decide : ¬ ((3 : Int32) < (3 : Int32)))).2.2.2 (by decide) (by decide) ?_
      refine XS.iload X57.here hx rfl (hb hby at_100) rfl ?_
      show own_S p e below T57 m 102 #[iv i1, iv i2, iv i3, iv i4, iv i5, iv ca, iv cb, iv cc, iv cd, iv (3 : Int32), iv (0 : Int32), rv b7, .unset, .unset, .unset, .unset, .unset] [(.int (0 : Int32))] _
      refine XS.ifYes X57.here hx rfl (pc0 := 102) (pc' := 116) rfl (hb hby at_102) rfl ((if0 _ _).trans (teq (by decide : (0 : Int32) = (0 : Int32))).1) (by decide) (by decide) ?_
      refine XS.iload X57.here hx rfl (hb hby at_116) rfl ?_
      refine XS.istore X57.here hx rfl (hb hby at_118) rfl (l' := #[iv i1, iv i2, iv i3, iv i4, iv i5, iv ca, iv cb, iv cc, iv cd, iv (3 : Int32), iv (0 : Int32), rv b7, iv ca, .unset, .unset, .unset, .unset]) rfl ?_
      show own_S p e below T57 m 120 #[iv i1, iv i2, iv i3, iv i4, iv i5, iv ca, iv cb, iv cc, iv cd, iv (3 : Int32), iv (0 : Int32), rv b7, iv ca, .unset, .unset, .unset, .unset] [] _
      refine XS.iload X57.here hx rfl (hb hby at_120) rfl ?_
      refine XS.istore X57.here hx rfl (hb hby at_122) rfl (l' := #[iv i1, iv i2, iv i3, iv i4, iv i5, iv ca, iv cb, iv cc, iv cd, iv (3 : Int32), iv (0 : Int32), rv b7, iv ca, iv cb, .unset, .unset, .unset]) rfl ?_
      refine XS.iload X57.here hx rfl (hb hby at_124) rfl ?_
      show own_S p e below T57 m 126 #[iv i1, iv i2, iv i3, iv i4, iv i5, iv ca, iv cb, iv cc, iv cd, iv (3 : Int32), iv (0 : Int32), rv b7, iv ca, iv cb, .unset, .unset, .unset] [(.int cc)] _
      refine XS.istore X57.here hx rfl (hb hby at_126) rfl (l' := #[iv i1, iv i2, iv i3, iv i4, iv i5, iv ca, iv cb, iv cc, iv cd, iv (3 : Int32), iv (0 : Int32), rv b7, iv ca, iv cb, iv cc, .unset, .unset]) rfl ?_
      refine XS.iload X57.here hx rfl (hb hby at_128) rfl ?_
      refine XS.istore X57.here hx rfl (hb hby at_130) rfl (l' := #[iv i1, iv i2, iv i3, iv i4, iv i5, iv ca, iv cb, iv cc, iv cd, iv (3 : Int32), iv (0 : Int32), rv b7, iv ca, iv cb, iv cc, iv cd, .unset]) rfl ?_
      show own_S p e below T57 m 132 #[iv i1, iv i2, iv i3, iv i4, iv i5, iv ca, iv cb, iv cc, iv cd, iv (3 : Int32), iv (0 : Int32), rv b7, iv ca, iv cb, iv cc, iv cd, .unset] [] _
      refine XS.iload X57.here hx rfl (hb hby at_132) rfl ?_
      refine XS.iload X57.here hx rfl (hb hby at_134) rfl ?_
      refine XS.iload X57.here hx rfl (hb hby at_136) rfl ?_
      show own_S p e below T57 m 138 #[iv i1, iv i2, iv i3, iv i4, iv i5, iv ca, iv cb, iv cc, iv cd, iv (3 : Int32), iv (0 : Int32), rv b7, iv ca, iv cb, iv cc, iv cd, .unset] [(.int cb), (.int ca), (.int ca)] _
      refine XS.iload X57.here hx rfl (hb hby at_138) rfl ?_
      refine XS.iload X57.here hx rfl (hb hby at_140) rfl ?_
      refine XS.iload X57.here hx rfl (hb hby at_142) rfl ?_
      show own_S p e below T57 m 144 #[iv i1, iv i2, iv i3, iv i4, iv i5, iv ca, iv cb, iv cc, iv cd, iv (3 : Int32), iv (0 : Int32), rv b7, iv ca, iv cb, iv cc, iv cd, .unset] [(.int (3 : Int32)), (.int cd), (.int cc), (.int cb), (.int ca), (.int ca)] _
      refine XS.iload X57.here hx rfl (hb hby at_144) rfl ?_
      refine st59 _ ?_
      refine XS.istore X59.here hx rfl (hb hby at_149) rfl (l' := #[iv i1, iv i2, iv i3, iv i4, iv i5, iv ca, iv cb, iv cc, iv cd, iv (3 : Int32), iv (0 : Int32), rv b7, iv ca, iv cb, iv cc, iv cd, iv (own_st ca ca cb cc cd (3 : Int32) (0 : Int32))]) rfl ?_
      exact k)
    obtain ⟨e1, he1⟩ : ∃ z, z = own_st ca ca cb cc cd (3 : Int32) (0 : Int32) := ⟨_, rfl⟩
    rw [← he1] at pre61
    obtain ⟨Tj62, Lj62, Xj62, ej62, Nj62, e2, h_e2, prej62⟩ : ∃ (Tj : State) (Lj : List Loc), Stand p l e room_1 s m #[(.int i1), (.int i2), (.int i3), (.int i4), (.int i5)] below meth c Tj Lj 2 6 ∧ Tj.heap = T57.heap ∧ Fr n0 Lj ∧ ∃ e2 : Int32, (((cb = ca) ∧ e2 = e1) ∨ (¬ (cb = ca) ∧ e2 = e1 + own_st cb ca cb cc cd (3 : Int32) (0 : Int32))) ∧ ∀ tg, own_S p e below Tj m 186 #[iv i1, iv i2, iv i3, iv i4, iv i5, iv ca, iv cb, iv cc, iv cd, iv (3 : Int32), iv (0 : Int32), rv b7, iv ca, iv cb, iv cc, iv cd, iv e2] [] tg → Steps p.tables e below (s₁.setTop (entryFrame m #[(.int i1), (.int i2), (.int i3), (.int i4), (.int i5)] maxLocals)) tg := by
      have pre64 : ∀ tg, own_S p e below T59 m 161 #[iv i1, iv i2, iv i3, iv i4, iv i5, iv ca, iv cb, iv cc, iv cd, iv (3 : Int32), iv (0 : Int32), rv b7, iv ca, iv cb, iv cc, iv cd, iv e1] [(.int ca), (.int cb)] tg → Steps p.tables e below (s₁.setTop (entryFrame m #[(.int i1), (.int i2), (.int i3), (.int i4), (.int i5)] maxLocals)) tg := fun tg k => pre61 tg (by
        show own_S p e below T59 m 151 #[iv i1, iv i2, iv i3, iv i4, iv i5, iv ca, iv cb, iv cc, iv cd, iv (3 : Int32), iv (0 : Int32), rv b7, iv ca, iv cb, iv cc, iv cd, iv e1] [] _
        refine XS.iload X59.here hx rfl (hb hby at_151) rfl ?_
        refine XS.iconst X59.here hx rfl (hb hby at_153) ?_
        refine XS.icmpNo X59.here hx rfl (hb hby at_154) rfl (tlt (by decide : (1 : Int32) < (3 : Int32))).2.2.2 ?_
        show own_S p e below T59 m 157 #[iv i1, iv i2, iv i3, iv i4, iv i5, iv ca, iv cb, iv cc, iv cd, iv (3 : Int32), iv (0 : Int32), rv b7, iv ca, iv cb, iv cc, iv cd, iv e1] [] _
        refine XS.iload X59.here hx rfl (hb hby at_157) rfl ?_
        refine XS.iload X59.here hx rfl (hb hby at_159) rfl ?_
        exact k)
      by_cases hc161_63 : cb = ca
      ·  -- pc 161 yes
        have pre65 : ∀ tg, own_S p e below T59 m 186 #[iv i1, iv i2, iv i3, iv i4, iv i5, iv ca, iv cb, iv cc, iv cd, iv (3 : Int32), iv (0 : Int32), rv b7, iv ca, iv cb, iv cc, iv cd, iv e1] [] tg → Steps p.tables e below (s₁.setTop (entryFrame m #[(.int i1), (.int i2), (.int i3), (.int i4), (.int i5)] maxLocals)) tg := fun tg k => pre64 tg (by
          show own_S p e below T59 m 161 #[iv i1, iv i2, iv i3, iv i4, iv i5, iv ca, iv cb, iv cc, iv cd, iv (3 : Int32), iv (0 : Int32), rv b7, iv ca, iv cb, iv cc, iv cd, iv e1] [(.int ca), (.int cb)] _
          refine XS.icmpYes X59.here hx rfl (pc0 := 161) (pc' := 186) rfl (hb hby at_161) rfl (teq hc161_63).1 (by decide) (by decide) ?_
          exact k)
        exact ⟨T59, _, X59, e59, N59, e1, (by first | exact Or.inl ⟨by simp [hc161_63], rfl⟩ | exact Or.inr ⟨by simp [hc161_63], rfl⟩), pre65⟩
      ·  -- pc 161 no
        obtain ⟨_, _, ⟨T66, L66, k66, n66⟩, -, X66, ⟨Lc66, hQ66, l66, y66, z66⟩, st66⟩ := Jvm.LawKit.callS X59 hx (y := (⟨"com/example/bitstrata/bitstrata/ArrayContainerRunCountPinLaw", "starts", "(IIIIIIZ)I"⟩ : MethodName)) hown (mvT hZ (hw _ (List.mem_of_getElem? (i := 14) rfl))) (mvT hZ (hw _ (List.mem_of_getElem? (i := 15) rfl))) (mvT hZ (hw _ (List.mem_of_getElem? (i := 16) rfl))) (mvT hZ (hw _ (List.mem_of_getElem? (i := 17) rfl))) (by decide) (backOf (W := 1) (rmSt l Z a0 hw [] cb ca cb cc cd (3 : Int32) (0 : Int32) T57.heap n0 Zs60 ) hZ (hw _ (List.mem_of_getElem? (i := 17) rfl)) (hw _ (List.mem_of_getElem? (i := 16) rfl)) (by decide) (by decide)) (g := (mkF m 180 #[iv i1, iv i2, iv i3, iv i4, iv i5, iv ca, iv cb, iv cc, iv cd, iv (3 : Int32), iv (0 : Int32), rv b7, iv ca, iv cb, iv cc, iv cd, iv e1] [(.int (0 : Int32)), (.int (3 : Int32)), (.int cd), (.int cc), (.int cb), (.int ca), (.int cb), (.int e1)])) rfl (by rw [hml]; rfl) (argsL := [(.int cb), (.int ca), (.int cb), (.int cc), (.int cd), (.int (3 : Int32)), (.int (0 : Int32))]) (rest := [(.int e1)]) (lenOf pd_4 rfl) rfl (by show 2 * 0 + _ ≤ _; exact Nat.le_of_eq rfl) (hb hby at_180) (fun _ _ => ⟨rfl, e59, (by decide : 2 + 0 ≤ _), (by decide : 6 + 0 ≤ _)⟩)
        dsimp only [Pt.U, Pt.locs, Pt.cells, Pt.slots] at X66 l66 y66 z66 st66 hQ66
        subst l66 y66 z66
        obtain ⟨rfl, N66q, e66q⟩ := hQ66
        have N66 := Fr.app N59 N66q
        have e66 : T66.heap = T57.heap := e66q
        have pre67 : ∀ tg, own_S p e below T66 m 186 #[iv i1, iv i2, iv i3, iv i4, iv i5, iv ca, iv cb, iv cc, iv cd, iv (3 : Int32), iv (0 : Int32), rv b7, iv ca, iv cb, iv cc, iv cd, iv (e1 + (own_st cb ca cb cc cd (3 : Int32) (0 : Int32)))] [] tg → Steps p.tables e below (s₁.setTop (entryFrame m #[(.int i1), (.int i2), (.int i3), (.int i4), (.int i5)] maxLocals)) tg := fun tg k => pre64 tg (by
          show own_S p e below T59 m 161 #[iv i1, iv i2, iv i3, iv i4, iv i5, iv ca, iv cb, iv cc, iv cd, iv (3 : Int32), iv (0 : Int32), rv b7, iv ca, iv cb, iv cc, iv cd, iv e1] [(.int ca), (.int cb)] _
          refine XS.icmpNo X59.here hx rfl (hb hby at_161) rfl (feq hc161_63).1 ?_
          refine XS.iload X59.here hx rfl (hb hby at_164) rfl ?_
          refine XS.iload X59.here hx rfl (hb hby at_166) rfl ?_
          show own_S p e below T59 m 168 #[iv i1, iv i2, iv i3, iv i4, iv i5, iv ca, iv cb, iv cc, iv cd, iv (3 : Int32), iv (0 : Int32), rv b7, iv ca, iv cb, iv cc, iv cd, iv e1] [(.int cb), (.int e1)] _
          refine XS.iload X59.here hx rfl (hb hby at_168) rfl ?_
          refine XS.iload X59.here hx rfl (hb hby at_170) rfl ?_
          refine XS.iload X59.here hx rfl (hb hby at_172) rfl ?_
          show own_S p e below T59 m 174 #[iv i1, iv i2, iv i3, iv i4, iv i5, iv ca, iv cb, iv cc, iv cd, iv (3 : Int32), iv (0 : Int32), rv b7, iv ca, iv cb, iv cc, iv cd, iv e1] [(.int cc), (.int cb), (.int ca), (.int cb), (.int e1)] _
          refine XS.iload X59.here hx rfl (hb hby at_174) rfl ?_
          refine XS.iload X59.here hx rfl (hb hby at_176) rfl ?_
          refine XS.iload X59.here hx rfl (hb hby at_178) rfl ?_
          show own_S p e below T59 m 180 #[iv i1, iv i2, iv i3, iv i4, iv i5, iv ca, iv cb, iv cc, iv cd, iv (3 : Int32), iv (0 : Int32), rv b7, iv ca, iv cb, iv cc, iv cd, iv e1] [(.int (0 : Int32)), (.int (3 : Int32)), (.int cd), (.int cc), (.int cb), (.int ca), (.int cb), (.int e1)] _
          refine st66 _ ?_
          refine XS.iadd X66.here hx rfl (hb hby at_183) rfl ?_
          refine XS.istore X66.here hx rfl (hb hby at_184) rfl (l' := #[iv i1, iv i2, iv i3, iv i4, iv i5, iv ca, iv cb, iv cc, iv cd, iv (3 : Int32), iv (0 : Int32), rv b7, iv ca, iv cb, iv cc, iv cd, iv (e1 + (own_st cb ca cb cc cd (3 : Int32) (0 : Int32)))]) rfl ?_
          exact k)
        exact ⟨T66, _, X66, e66, N66, (e1 + (own_st cb ca cb cc cd (3 : Int32) (0 : Int32))), (by first | exact Or.inl ⟨by simp [hc161_63], rfl⟩ | exact Or.inr ⟨by simp [hc161_63], rfl⟩), pre67⟩
    obtain ⟨Tj68, Lj68, Xj68, ej68, Nj68, e3, h_e3, prej68⟩ : ∃ (Tj : State) (Lj : List Loc), Stand p l e room_1 s m #[(.int i1), (.int i2), (.int i3), (.int i4), (.int i5)] below meth c Tj Lj 2 6 ∧ Tj.heap = T57.heap ∧ Fr n0 Lj ∧ ∃ e3 : Int32, (((cc = ca ∨ cc = cb) ∧ e3 = e2) ∨ (¬ (cc = ca ∨ cc = cb) ∧ e3 = e2 + own_st cc ca cb cc cd (3 : Int32) (0 : Int32))) ∧ ∀ tg, own_S p e below Tj m 228 #[iv i1, iv i2, iv i3, iv i4, iv i5, iv ca, iv cb, iv cc, iv cd, iv (3 : Int32), iv (0 : Int32), rv b7, iv ca, iv cb, iv cc, iv cd, iv e3] [] tg → Steps p.tables e below (s₁.setTop (entryFrame m #[(.int i1), (.int i2), (.int i3), (.int i4), (.int i5)] maxLocals)) tg := by
      have pre70 : ∀ tg, own_S p e below Tj62 m 196 #[iv i1, iv i2, iv i3, iv i4, iv i5, iv ca, iv cb, iv cc, iv cd, iv (3 : Int32), iv (0 : Int32), rv b7, iv ca, iv cb, iv cc, iv cd, iv e2] [(.int ca), (.int cc)] tg → Steps p.tables e below (s₁.setTop (entryFrame m #[(.int i1), (.int i2), (.int i3), (.int i4), (.int i5)] maxLocals)) tg := fun tg k => prej62 tg (by
        show own_S p e below Tj62 m 186 #[iv i1, iv i2, iv i3, iv i4, iv i5, iv ca, iv cb, iv cc, iv cd, iv (3 : Int32), iv (0 : Int32), rv b7, iv ca, iv cb, iv cc, iv cd, iv e2] [] _
        refine XS.iload Xj62.here hx rfl (hb hby at_186) rfl ?_
        refine XS.iconst Xj62.here hx rfl (hb hby at_188) ?_
        refine XS.icmpNo Xj62.here hx rfl (hb hby at_189) rfl (tlt (by decide : (2 : Int32) < (3 : Int32))).2.2.2 ?_
        show own_S p e below Tj62 m 192 #[iv i1, iv i2, iv i3, iv i4, iv i5, iv ca, iv cb, iv cc, iv cd, iv (3 : Int32), iv (0 : Int32), rv b7, iv ca, iv cb, iv cc, iv cd, iv e2] [] _
        refine XS.iload Xj62.here hx rfl (hb hby at_192) rfl ?_
        refine XS.iload Xj62.here hx rfl (hb hby at_194) rfl ?_
        exact k)
      by_cases hc196_69 : cc = ca
      ·  -- pc 196 yes
        have pre71 : ∀ tg, own_S p e below Tj62 m 228 #[iv i1, iv i2, iv i3, iv i4, iv i5, iv ca, iv cb, iv cc, iv cd, iv (3 : Int32), iv (0 : Int32), rv b7, iv ca, iv cb, iv cc, iv cd, iv e2] [] tg → Steps p.tables e below (s₁.setTop (entryFrame m #[(.int i1), (.int i2), (.int i3), (.int i4), (.int i5)] maxLocals)) tg := fun tg k => pre70 tg (by
          show own_S p e below Tj62 m 196 #[iv i1, iv i2, iv i3, iv i4, iv i5, iv ca, iv cb, iv cc, iv cd, iv (3 : Int32), iv (0 : Int32), rv b7, iv ca, iv cb, iv cc, iv cd, iv e2] [(.int ca), (.int cc)] _
          refine XS.icmpYes Xj62.here hx rfl (pc0 := 196) (pc' := 228) rfl (hb hby at_196) rfl (teq hc196_69).1 (by decide) (by decide) ?_
          exact k)
        exact ⟨Tj62, _, Xj62, ej62, Nj62, e2, (by first | exact Or.inl ⟨by simp [hc196_69], rfl⟩ | exact Or.inr ⟨by simp [hc196_69], rfl⟩), pre71⟩
      ·  -- pc 196 no
        have pre73 : ∀ tg, own_S p e below Tj62 m 203 #[iv i1, iv i2, iv i3, iv i4, iv i5, iv ca, iv cb, iv cc, iv cd, iv (3 : Int32), iv (0 : Int32), rv b7, iv ca, iv cb, iv cc, iv cd, iv e2] [(.int cb), (.int cc)] tg → Steps p.tables e below (s₁.setTop (entryFrame m #[(.int i1), (.int i2), (.int i3), (.int i4), (.int i5)] maxLocals)) tg := fun tg k => pre70 tg (by
          show own_S p e below Tj62 m 196 #[iv i1, iv i2, iv i3, iv i4, iv i5, iv ca, iv cb, iv cc, iv cd, iv (3 : Int32), iv (0 : Int32), rv b7, iv ca, iv cb, iv cc, iv cd, iv e2] [(.int ca), (.int cc)] _
          refine XS.icmpNo Xj62.here hx rfl (hb hby at_196) rfl (feq hc196_69).1 ?_
          refine XS.iload Xj62.here hx rfl (hb hby at_199) rfl ?_
          refine XS.iload Xj62.here hx rfl (hb hby at_201) rfl ?_
          exact k)
        by_cases hc203_72 : cc = cb
        ·  -- pc 203 yes
          have pre74 : ∀ tg, own_S p e below Tj62 m 228 #[iv i1, iv i2, iv i3, iv i4, iv i5, iv ca, iv cb, iv cc, iv cd, iv (3 : Int32), iv (0 : Int32), rv b7, iv ca, iv cb, iv cc, iv cd, iv e2] [] tg → Steps p.tables e below (s₁.setTop (entryFrame m #[(.int i1), (.int i2), (.int i3), (.int i4), (.int i5)] maxLocals)) tg := fun tg k => pre73 tg (by
            show own_S p e below Tj62 m 203 #[iv i1, iv i2, iv i3, iv i4, iv i5, iv ca, iv cb, iv cc, iv cd, iv (3 : Int32), iv (0 : Int32), rv b7, iv ca, iv cb, iv cc, iv cd, iv e2] [(.int cb), (.int cc)] _
            refine XS.icmpYes Xj62.here hx rfl (pc0 := 203) (pc' := 228) rfl (hb hby at_203) rfl (teq hc203_72).1 (by decide) (by decide) ?_
            exact k)
          exact ⟨Tj62, _, Xj62, ej62, Nj62, e2, (by first | exact Or.inl ⟨by simp [hc196_69, hc203_72], rfl⟩ | exact Or.inr ⟨by simp [hc196_69, hc203_72], rfl⟩), pre74⟩
        ·  -- pc 203 no
          obtain ⟨_, _, ⟨T75, L75, k75, n75⟩, -, X75, ⟨Lc75, hQ75, l75, y75, z75⟩, st75⟩ := Jvm.LawKit.callS Xj62 hx (y := (⟨"com/example/bitstrata/bitstrata/ArrayContainerRunCountPinLaw", "starts", "(IIIIIIZ)I"⟩ : MethodName)) hown (mvT hZ (hw _ (List.mem_of_getElem? (i := 14) rfl))) (mvT hZ (hw _ (List.mem_of_getElem? (i := 15) rfl))) (mvT hZ (hw _ (List.mem_of_getElem? (i := 16) rfl))) (mvT hZ (hw _ (List.mem_of_getElem? (i := 17) rfl))) (by decide) (backOf (W := 1) (rmSt l Z a0 hw [] cc ca cb cc cd (3 : Int32) (0 : Int32) T57.heap n0 Zs60 ) hZ (hw _ (List.mem_of_getElem? (i := 17) rfl)) (hw _ (List.mem_of_getElem? (i := 16) rfl)) (by decide) (by decide)) (g := (mkF m 222 #[iv i1, iv i2, iv i3, iv i4, iv i5, iv ca, iv cb, iv cc, iv cd, iv (3 : Int32), iv (0 : Int32), rv b7, iv ca, iv cb, iv cc, iv cd, iv e2] [(.int (0 : Int32)), (.int (3 : Int32)), (.int cd), (.int cc), (.int cb), (.int ca), (.int cc), (.int e2)])) rfl (by rw [hml]; rfl) (argsL := [(.int cc), (.int ca), (.int cb), (.int cc), (.int cd), (.int (3 : Int32)), (.int (0 : Int32))]) (rest := [(.int e2)]) (lenOf pd_4 rfl) rfl (by show 2 * 0 + _ ≤ _; exact Nat.le_of_eq rfl) (hb hby at_222) (fun _ _ => ⟨rfl, ej62, (by decide : 2 + 0 ≤ _), (by decide : 6 + 0 ≤ _)⟩)
          dsimp only [Pt.U, Pt.locs, Pt.cells, Pt.slots] at X75 l75 y75 z75 st75 hQ75
          subst l75 y75 z75
          obtain ⟨rfl, N75q, e75q⟩ := hQ75
          have N75 := Fr.app Nj62 N75q
          have e75 : T75.heap = T57.heap := e75q
          have pre76 : ∀ tg, own_S p e below T75 m 228 #[iv i1, iv i2, iv i3, iv i4, iv i5, iv ca, iv cb, iv cc, iv cd, iv (3 : Int32), iv (0 : Int32), rv b7, iv ca, iv cb, iv cc, iv cd, iv (e2 + (own_st cc ca cb cc cd (3 : Int32) (0 : Int32)))] [] tg → Steps p.tables e below (s₁.setTop (entryFrame m #[(.int i1), (.int i2), (.int i3), (.int i4), (.int i5)] maxLocals)) tg := fun tg k => pre73 tg (by
            show own_S p e below Tj62 m 203 #[iv i1, iv i2, iv i3, iv i4, iv i5, iv ca, iv cb, iv cc, iv cd, iv (3 : Int32), iv (0 : Int32), rv b7, iv ca, iv cb, iv cc, iv cd, iv e2] [(.int cb), (.int cc)] _
            refine XS.icmpNo Xj62.here hx rfl (hb hby at_203) rfl (feq hc203_72).1 ?_
            refine XS.iload Xj62.here hx rfl (hb hby at_206) rfl ?_
            refine XS.iload Xj62.here hx rfl (hb hby at_208) rfl ?_
            show own_S p e below Tj62 m 210 #[iv i1, iv i2, iv i3, iv i4, iv i5, iv ca, iv cb, iv cc, iv cd, iv (3 : Int32), iv (0 : Int32), rv b7, iv ca, iv cb, iv cc, iv cd, iv e2] [(.int cc), (.int e2)] _
            refine XS.iload Xj62.here hx rfl (hb hby at_210) rfl ?_
            refine XS.iload Xj62.here hx rfl (hb hby at_212) rfl ?_
            refine XS.iload Xj62.here hx rfl (hb hby at_214) rfl ?_
            show own_S p e below Tj62 m 216 #[iv i1, iv i2, iv i3, iv i4, iv i5, iv ca, iv cb, iv cc, iv cd, iv (3 : Int32), iv (0 : Int32), rv b7, iv ca, iv cb, iv cc, iv cd, iv e2] [(.int cc), (.int cb), (.int ca), (.int cc), (.int e2)] _
            refine XS.iload Xj62.here hx rfl (hb hby at_216) rfl ?_
            refine XS.iload Xj62.here hx rfl (hb hby at_218) rfl ?_
            refine XS.iload Xj62.here hx rfl (hb hby at_220) rfl ?_
            show own_S p e below Tj62 m 222 #[iv i1, iv i2, iv i3, iv i4, iv i5, iv ca, iv cb, iv cc, iv cd, iv (3 : Int32), iv (0 : Int32), rv b7, iv ca, iv cb, iv cc, iv cd, iv e2] [(.int (0 : Int32)), (.int (3 : Int32)), (.int cd), (.int cc), (.int cb), (.int ca), (.int cc), (.int e2)] _
            refine st75 _ ?_
            refine XS.iadd X75.here hx rfl (hb hby at_225) rfl ?_
            refine XS.istore X75.here hx rfl (hb hby at_226) rfl (l' := #[iv i1, iv i2, iv i3, iv i4, iv i5, iv ca, iv cb, iv cc, iv cd, iv (3 : Int32), iv (0 : Int32), rv b7, iv ca, iv cb, iv cc, iv cd, iv (e2 + (own_st cc ca cb cc cd (3 : Int32) (0 : Int32)))]) rfl ?_
            exact k)
          exact ⟨T75, _, X75, e75, N75, (e2 + (own_st cc ca cb cc cd (3 : Int32) (0 : Int32))), (by first | exact Or.inl ⟨by simp [hc196_69, hc203_72], rfl⟩ | exact Or.inr ⟨by simp [hc196_69, hc203_72], rfl⟩), pre76⟩
    have pre77 : ∀ tg, own_S p e below Tj68 m 277 #[iv i1, iv i2, iv i3, iv i4, iv i5, iv ca, iv cb, iv cc, iv cd, iv (3 : Int32), iv (0 : Int32), rv b7, iv ca, iv cb, iv cc, iv cd, iv e3] [] tg → Steps p.tables e below (s₁.setTop (entryFrame m #[(.int i1), (.int i2), (.int i3), (.int i4), (.int i5)] maxLocals)) tg := fun tg k => prej68 tg (by
      show own_S p e below Tj68 m 228 #[iv i1, iv i2, iv i3, iv i4, iv i5, iv ca, iv cb, iv cc, iv cd, iv (3 : Int32), iv (0 : Int32), rv b7, iv ca, iv cb, iv cc, iv cd, iv e3] [] _
      refine XS.iload Xj68.here hx rfl (hb hby at_228) rfl ?_
      refine XS.iconst Xj68.here hx rfl (hb hby at_230) ?_
      refine XS.icmpYes Xj68.here hx rfl (pc0 := 231) (pc' := 277) rfl (hb hby at_231) rfl (flt (by decide : ¬ ((3 : Int32) < (3 : Int32)))).2.2.2 (by decide) (by decide) ?_
      exact k)
    obtain ⟨dd, hdd, hsum, hmd⟩ := own_dd3 (fun x => own_st x ca cb cc cd (3 : Int32) (0 : Int32)) ca cb cc e1 e2 e3 he1 h_e2 h_e3
    have hset : ∀ x, x ∈ ys57 ↔ own_set ca cb cc cd (3 : Int32) (0 : Int32) x := fun x => by
      rw [hm57]; rw [hm55]; rw [hm8]
      simp only [own_set, (by decide : (1 : Int32) < 3), (by decide : (2 : Int32) < 3), (by decide : ¬ (3 : Int32) < 3), true_and, false_and, or_false, false_or, (by decide : (0 : Int32) = 0), and_true, and_false]
      try (by_cases q : x = ca <;> simp [q, or_assoc])
    have hfin : own_runs ys57 = e3 := by
      rw [hsum]
      refine own_plain hs57 (own_rng_of hch57) hdd (fun x hx => (hmd x).mpr ?_) (fun x => own_st_f hset x)
      have := (hset x).mp hx
      simp only [own_set, (by decide : (1 : Int32) < 3), (by decide : (2 : Int32) < 3), (by decide : ¬ (3 : Int32) < 3), true_and, false_and, or_false, false_or] at this
      rcases this with this | this
      · simp [this.1]
      · rcases this.2 with h | h <;> simp [h]
    obtain ⟨cq78, kq78, q78a, q78b, q78c⟩ := isOf hZ ej68 E57c
    obtain ⟨_, _, ⟨T78, L78, k78, n78⟩, -, X78, ⟨Lc78, hQ78, l78, y78, z78⟩, st78⟩ := Xj68.interfaceBack hx (xi := (⟨"com/example/bitstrata/bitstrata/Container", "runCount", "()I"⟩ : MethodName)) (y := (⟨"com/example/bitstrata/bitstrata/ArrayContainer", "runCount", "()I"⟩ : MethodName)) hown (mvT hZ (hw _ (List.mem_of_getElem? (i := 21) rfl))) (mvT hZ (hw _ (List.mem_of_getElem? (i := 22) rfl))) (mvT hZ (hw _ (List.mem_of_getElem? (i := 23) rfl))) (mvT hZ (hw _ (List.mem_of_getElem? (i := 24) rfl))) (mvT hZ (hw _ (List.mem_of_getElem? (i := 25) rfl))) (mvT hZ (hw _ (List.mem_of_getElem? (i := 26) rfl))) (mvT hZ (hw _ (List.mem_of_getElem? (i := 27) rfl))) (mvT hZ (hw _ (List.mem_of_getElem? (i := 28) rfl))) (by decide) (backOf (W := 0) (rmRun l Z a0 hw [] b7 u57 ku57 ys57 (own_vs ys57) T57.heap n0 Zs60 Fv57 Fc57 (own_z4 V57u (by omega)) (by omega) (own_pre_vs ys57 (by omega))) hZ (hw _ (List.mem_of_getElem? (i := 29) rfl)) (hw _ (List.mem_of_getElem? (i := 2) rfl)) (by decide) (by decide)) q78a q78b q78c (g := (mkF m 279 #[iv i1, iv i2, iv i3, iv i4, iv i5, iv ca, iv cb, iv cc, iv cd, iv (3 : Int32), iv (0 : Int32), rv b7, iv ca, iv cb, iv cc, iv cd, iv e3] [(.ref b7)])) rfl (by rw [hml]; rfl) (Steps.refl _) (argsL := []) (rest := []) (lenOf pd_5 rfl) rfl (by show 2 * 0 + _ ≤ _; exact Nat.le_of_eq rfl) (hb hby at_279) (fun _ _ => ⟨rfl, ej68, (by decide : 2 + 0 ≤ _), (by decide : 6 + 0 ≤ _)⟩)
    dsimp only [Pt.U, Pt.locs, Pt.cells, Pt.slots] at X78 l78 y78 z78 st78 hQ78
    subst l78 y78 z78
    obtain ⟨rfl, N78q, e78q⟩ := hQ78
    have N78 := Fr.app Nj68 N78q
    have e78 : T78.heap = T57.heap := e78q
    have pre79 : ∀ tg, own_S p e below T78 m 294 #[iv i1, iv i2, iv i3, iv i4, iv i5, iv ca, iv cb, iv cc, iv cd, iv (3 : Int32), iv (0 : Int32), rv b7, iv ca, iv cb, iv cc, iv cd, iv e3] [(.int (1 : Int32))] tg → Steps p.tables e below (s₁.setTop (entryFrame m #[(.int i1), (.int i2), (.int i3), (.int i4), (.int i5)] maxLocals)) tg := fun tg k => pre77 tg (by
      show own_S p e below Tj68 m 277 #[iv i1, iv i2, iv i3, iv i4, iv i5, iv ca, iv cb, iv cc, iv cd, iv (3 : Int32), iv (0 : Int32), rv b7, iv ca, iv cb, iv cc, iv cd, iv e3] [] _
      refine XS.aload Xj68.here hx rfl (hb hby at_277) rfl rfl ?_
      refine st78.trans ?_
      refine XS.iload X78.here hx rfl (hb hby at_284) rfl ?_
      show own_S p e below T78 m 286 #[iv i1, iv i2, iv i3, iv i4, iv i5, iv ca, iv cb, iv cc, iv cd, iv (3 : Int32), iv (0 : Int32), rv b7, iv ca, iv cb, iv cc, iv cd, iv e3] [(.int e3), (.int (own_runs ys57))] _
      refine XS.icmpNo X78.here hx rfl (hb hby at_286) rfl (teq hfin).2 ?_
      refine XS.iconst X78.here hx rfl (hb hby at_289) ?_
      refine XS.goto X78.here hx rfl (pc0 := 290) (pc' := 294) rfl (hb hby at_290) (by decide) (by decide) ?_
      exact k)
    obtain ⟨fs, hr, hrun, hended, hW, hsame⟩ := X78.leave (v := some (.int (nar .boolean (1 : Int32)))) (fun h => by rw [Bd.returns] at h; cases h)
    refine ⟨_, _, pre79 _ ?_, hrun, hended, _, _, rfl, ?_, ⟨_, rfl⟩, hW, hsame.mono (by decide) (by decide)⟩
    · show own_S p e below T78 m 294 #[iv i1, iv i2, iv i3, iv i4, iv i5, iv ca, iv cb, iv cc, iv cd, iv (3 : Int32), iv (0 : Int32), rv b7, iv ca, iv cb, iv cc, iv cd, iv e3] [(.int (1 : Int32))] _
      exact retN X78 hx (t := .boolean) Bd.returns (by simp) (hb hby at_294) hr
    · show Q0 Z i1 i2 i3 i4 i5 h0 n0 _ T78.heap _
      rw [e78]
      exact ⟨rfl, N78⟩
  ·  -- case
    have Zs81 : n0 ≤ T8.heap.size := (Nat.le_trans Zs9 K8.1)
    obtain ⟨cq80, kq80, q80a, q80b, q80c⟩ := isOf hZ rfl E8c
    obtain ⟨_, _, ⟨T80, L80, k80, n80⟩, -, X80, ⟨Lc80, hQ80, l80, y80, z80⟩, st80⟩ := X8.interfaceBack hx (xi := (⟨"com/example/bitstrata/bitstrata/Container", "add", "(C)Lcom/example/bitstrata/bitstrata/Container;"⟩ : MethodName)) (y := (⟨"com/example/bitstrata/bitstrata/ArrayContainer", "add", "(C)Lcom/example/bitstrata/bitstrata/Container;"⟩ : MethodName)) hown (mvT hZ (hw _ (List.mem_of_getElem? (i := 30) rfl))) (mvT hZ (hw _ (List.mem_of_getElem? (i := 31) rfl))) (mvT hZ (hw _ (List.mem_of_getElem? (i := 32) rfl))) (mvT hZ (hw _ (List.mem_of_getElem? (i := 33) rfl))) (mvT hZ (hw _ (List.mem_of_getElem? (i := 34) rfl))) (mvT hZ (hw _ (List.mem_of_getElem? (i := 35) rfl))) (mvT hZ (hw _ (List.mem_of_getElem? (i := 36) rfl))) (mvT hZ (hw _ (List.mem_of_getElem? (i := 28) rfl))) (by decide) (backOf (W := 0) (rmAdd l Z a0 hw [] b7 cb t8 k_8 [ca] T8.heap n0 Zs81 E8c g_b7 g_t8 Fv8 Fcb8 Vb8 ne_t8 (Nat.le_refl 1 : 1 ≤ [ca].length) (by omega) (trivial : own_srt [ca]) (by intro x hx; cases List.mem_singleton.mp hx; exact hk_ca : own_chs [ca]) hk_cb) hZ (hw _ (List.mem_of_getElem? (i := 37) rfl)) (hw _ (List.mem_of_getElem? (i := 2) rfl)) (by decide) (by decide)) q80a q80b q80c (g := (mkF m 59 #[iv i1, iv i2, iv i3, iv i4, iv i5, iv ca, iv cb, iv cc, iv cd, iv (3 : Int32), iv (1 : Int32), rv b7, .unset, .unset, .unset, .unset, .unset] [(.int cb), (.ref b7)])) rfl (by rw [hml]; rfl) (Steps.refl _) (argsL := [(.int cb)]) (rest := []) (lenOf pd_6 rfl) rfl (by show 2 * 0 + _ ≤ _; exact Nat.le_of_eq rfl) (hb hby at_59) (fun _ _ => ⟨rfl, rfl, (by decide : 2 + 0 ≤ _), (by decide : 6 + 0 ≤ _)⟩)
    dsimp only [Pt.U, Pt.locs, Pt.cells, Pt.slots] at X80 l80 y80 z80 st80 hQ80
    subst l80 y80 z80
    obtain ⟨ys80, u80, ku80, rfl, N80q, K80, E80c, Fv80, Fc80, V80u, g_u80, ne_u80, -, l1_80, l2_80, hs80, hch80, hm80⟩ := hQ80
    have N80 := Fr.app N8 N80q
    have Zs83 : n0 ≤ T80.heap.size := (Nat.le_trans Zs81 K80.1)
    obtain ⟨cq82, kq82, q82a, q82b, q82c⟩ := isOf hZ rfl E80c
    obtain ⟨_, _, ⟨T82, L82, k82, n82⟩, -, X82, ⟨Lc82, hQ82, l82, y82, z82⟩, st82⟩ := X80.interfaceBack hx (xi := (⟨"com/example/bitstrata/bitstrata/Container", "add", "(C)Lcom/example/bitstrata/bitstrata/Container;"⟩ : MethodName)) (y := (⟨"com/example/bitstrata/bitstrata/ArrayContainer", "add", "(C)Lcom/example/bitstrata/bitstrata/Container;"⟩ : MethodName)) hown (mvT hZ (hw _ (List.mem_of_getElem? (i := 30) rfl))) (mvT hZ (hw _ (List.mem_of_getElem? (i := 31) rfl))) (mvT hZ (hw _ (List.mem_of_getElem? (i := 32) rfl))) (mvT hZ (hw _ (List.mem_of_getElem? (i := 33) rfl))) (mvT hZ (hw _ (List.mem_of_getElem? (i := 34) rfl))) (mvT hZ (hw _ (List.mem_of_getElem? (i := 35) rfl))) (mvT hZ (hw _ (List.mem_of_getElem? (i := 36) rfl))) (mvT hZ (hw _ (List.mem_of_getElem? (i := 28) rfl))) (by decide) (backOf (W := 0) (rmAdd l Z a0 hw [] b7 cc u80 ku80 ys80 T80.heap n0 Zs83 E80c g_b7 g_u80 Fv80 Fc80 V80u ne_u80 l1_80 (by omega) hs80 hch80 hk_cc) hZ (hw _ (List.mem_of_getElem? (i := 37) rfl)) (hw _ (List.mem_of_getElem? (i := 2) rfl)) (by decide) (by decide)) q82a q82b q82c (g := (mkF m 76 #[iv i1, iv i2, iv i3, iv i4, iv i5, iv ca, iv cb, iv cc, iv cd, iv (3 : Int32), iv (1 : Int32), rv b7, .unset, .unset, .unset, .unset, .unset] [(.int cc), (.ref b7)])) rfl (by rw [hml]; rfl) (Steps.refl _) (argsL := [(.int cc)]) (rest := []) (lenOf pd_6 rfl) rfl (by show 2 * 0 + _ ≤ _; exact Nat.le_of_eq rfl) (hb hby at_76) (fun _ _ => ⟨rfl, rfl, (by decide : 2 + 0 ≤ _), (by decide : 6 + 0 ≤ _)⟩)
    dsimp only [Pt.U, Pt.locs, Pt.cells, Pt.slots] at X82 l82 y82 z82 st82 hQ82
    subst l82 y82 z82
    obtain ⟨ys82, u82, ku82, rfl, N82q, K82, E82c, Fv82, Fc82, V82u, g_u82, ne_u82, -, l1_82, l2_82, hs82, hch82, hm82⟩ := hQ82
    have N82 := Fr.app N80 N82q
    have Zs85 : n0 ≤ T82.heap.size := (Nat.le_trans Zs83 K82.1)
    obtain ⟨cq84, kq84, q84a, q84b, q84c⟩ := isOf hZ rfl E82c
    obtain ⟨_, _, ⟨T84, L84, k84, n84⟩, -, X84, ⟨Lc84, hQ84, l84, y84, z84⟩, st84⟩ := X82.interfaceBack hx (xi := (⟨"com/example/bitstrata/bitstrata/Container", "remove", "(C)Lcom/example/bitstrata/bitstrata/Container;"⟩ : MethodName)) (y := (⟨"com/example/bitstrata/bitstrata/ArrayContainer", "remove", "(C)Lcom/example/bitstrata/bitstrata/Container;"⟩ : MethodName)) hown (mvT hZ (hw _ (List.mem_of_getElem? (i := 52) rfl))) (mvT hZ (hw _ (List.mem_of_getElem? (i := 53) rfl))) (mvT hZ (hw _ (List.mem_of_getElem? (i := 54) rfl))) (mvT hZ (hw _ (List.mem_of_getElem? (i := 55) rfl))) (mvT hZ (hw _ (List.mem_of_getElem? (i := 56) rfl))) (mvT hZ (hw _ (List.mem_of_getElem? (i := 57) rfl))) (mvT hZ (hw _ (List.mem_of_getElem? (i := 58) rfl))) (mvT hZ (hw _ (List.mem_of_getElem? (i := 28) rfl))) (by decide) (backOf (W := 0) (rmRem l Z a0 hw [] b7 ca u82 ku82 ys82 T82.heap n0 Zs85 E82c g_b7 g_u82 Fv82 Fc82 V82u ne_u82 l1_82 (by omega) hs82 hch82 ((hm82 _).mpr (Or.inl ((hm80 _).mpr (Or.inl ((hm8 _).mpr rfl)))))) hZ (hw _ (List.mem_of_getElem? (i := 59) rfl)) (hw _ (List.mem_of_getElem? (i := 2) rfl)) (by decide) (by decide)) q84a q84b q84c (g := (mkF m 109 #[iv i1, iv i2, iv i3, iv i4, iv i5, iv ca, iv cb, iv cc, iv cd, iv (3 : Int32), iv (1 : Int32), rv b7, .unset, .unset, .unset, .unset, .unset] [(.int ca), (.ref b7)])) rfl (by rw [hml]; rfl) (Steps.refl _) (argsL := [(.int ca)]) (rest := []) (lenOf pd_6 rfl) rfl (by show 2 * 0 + _ ≤ _; exact Nat.le_of_eq rfl) (hb hby at_109) (fun _ _ => ⟨rfl, rfl, (by decide : 2 + 0 ≤ _), (by decide : 6 + 0 ≤ _)⟩)
    dsimp only [Pt.U, Pt.locs, Pt.cells, Pt.slots] at X84 l84 y84 z84 st84 hQ84
    subst l84 y84 z84
    obtain ⟨ys84, vs84, rfl, N84q, K84, E84c, Fv84, Fc84, V84u, l2_84, pr84, hs84, hch84, hm84⟩ := hQ84
    have N84 := Fr.app N82 N84q
    have Zs87 : n0 ≤ T84.heap.size := (Nat.le_trans Zs85 K84.1)
    obtain ⟨_, _, ⟨T86, L86, k86, n86⟩, -, X86, ⟨Lc86, hQ86, l86, y86, z86⟩, st86⟩ := Jvm.LawKit.callS X84 hx (y := (⟨"com/example/bitstrata/bitstrata/ArrayContainerRunCountPinLaw", "starts", "(IIIIIIZ)I"⟩ : MethodName)) hown (mvT hZ (hw _ (List.mem_of_getElem? (i := 14) rfl))) (mvT hZ (hw _ (List.mem_of_getElem? (i := 15) rfl))) (mvT hZ (hw _ (List.mem_of_getElem? (i := 16) rfl))) (mvT hZ (hw _ (List.mem_of_getElem? (i := 17) rfl))) (by decide) (backOf (W := 0) (rmSt l Z a0 hw [] ca ca cb cc cd (3 : Int32) (1 : Int32) T84.heap n0 Zs87 ) hZ (hw _ (List.mem_of_getElem? (i := 17) rfl)) (hw _ (List.mem_of_getElem? (i := 16) rfl)) (by decide) (by decide)) (g := (mkF m 146 #[iv i1, iv i2, iv i3, iv i4, iv i5, iv ca, iv cb, iv cc, iv cd, iv (3 : Int32), iv (1 : Int32), rv b7, iv ca, iv cb, iv cc, iv cd, .unset] [(.int (1 : Int32)), (.int (3 : Int32)), (.int cd), (.int cc), (.int cb), (.int ca), (.int ca)])) rfl (by rw [hml]; rfl) (argsL := [(.int ca), (.int ca), (.int cb), (.int cc), (.int cd), (.int (3 : Int32)), (.int (1 : Int32))]) (rest := []) (lenOf pd_4 rfl) rfl (by show 2 * 0 + _ ≤ _; exact Nat.le_of_eq rfl) (hb hby at_146) (fun _ _ => ⟨rfl, rfl, (by decide : 2 + 0 ≤ _), (by decide : 6 + 0 ≤ _)⟩)
    dsimp only [Pt.U, Pt.locs, Pt.cells, Pt.slots] at X86 l86 y86 z86 st86 hQ86
    subst l86 y86 z86
    obtain ⟨rfl, N86q, e86q⟩ := hQ86
    have N86 := Fr.app N84 N86q
    have e86 : T86.heap = T84.heap := e86q
    have pre88 : ∀ tg, own_S p e below T86 m 151 #[iv i1, iv i2, iv i3, iv i4, iv i5, iv ca, iv cb, iv cc, iv cd, iv (3 : Int32), iv (1 : Int32), rv b7, iv ca, iv cb, iv cc, iv cd, iv (own_st ca ca cb cc cd (3 : Int32) (1 : Int32))] [] tg → Steps p.tables e below (s₁.setTop (entryFrame m #[(.int i1), (.int i2), (.int i3), (.int i4), (.int i5)] maxLocals)) tg := fun tg k => pre10 tg (by
      show own_S p e below T8 m 49 #[iv i1, iv i2, iv i3, iv i4, iv i5, iv ca, iv cb, iv cc, iv cd, iv (3 : Int32), iv (1 : Int32), rv b7, .unset, .unset, .unset, .unset, .unset] [] _
      refine XS.iload X8.here hx rfl (hb hby at_49) rfl ?_
      refine XS.iconst X8.here hx rfl (hb hby at_51) ?_
      refine XS.icmpNo X8.here hx rfl (hb hby at_52) rfl (tlt (by decide : (1 : Int32) < (3 : Int32))).2.2.2 ?_
      show own_S p e below T8 m 55 #[iv i1, iv i2, iv i3, iv i4, iv i5, iv ca, iv cb, iv cc, iv cd, iv (3 : Int32), iv (1 : Int32), rv b7, .unset, .unset, .unset, .unset, .unset] [] _
      refine XS.aload X8.here hx rfl (hb hby at_55) rfl rfl ?_
      refine XS.iload X8.here hx rfl (hb hby at_57) rfl ?_
      refine st80.trans ?_
      show own_S p e below T80 m 64 #[iv i1, iv i2, iv i3, iv i4, iv i5, iv ca, iv cb, iv cc, iv cd, iv (3 : Int32), iv (1 : Int32), rv b7, .unset, .unset, .unset, .unset, .unset] [(.ref b7)] _
      refine XS.astore X80.here hx rfl (hb hby at_64) rfl rfl (l' := #[iv i1, iv i2, iv i3, iv i4, iv i5, iv ca, iv cb, iv cc, iv cd, iv (3 : Int32), iv (1 : Int32), rv b7, .unset, .unset, .unset, .unset, .unset]) rfl ?_
      refine XS.iload X80.here hx rfl (hb hby at_66) rfl ?_
      refine XS.iconst X80.here hx rfl (hb hby at_68) ?_
      show own_S p e below T80 m 69 #[iv i1, iv i2, iv i3, iv i4, iv i5, iv ca, iv cb, iv cc, iv cd, iv (3 : Int32), iv (1 : Int32), rv b7, .unset, .unset, .unset, .unset, .unset] [(.int (2 : Int32)), (.int (3 : Int32))] _
      refine XS.icmpNo X80.here hx rfl (hb hby at_69) rfl (tlt (by decide : (2 : Int32) < (3 : Int32))).2.2.2 ?_
      refine XS.aload X80.here hx rfl (hb hby at_72) rfl rfl ?_
      refine XS.iload X80.here hx rfl (hb hby at_74) rfl ?_
      show own_S p e below T80 m 76 #[iv i1, iv i2, iv i3, iv i4, iv i5, iv ca, iv cb, iv cc, iv cd, iv (3 : Int32), iv (1 : Int32), rv b7, .unset, .unset, .unset, .unset, .unset] [(.int cc), (.ref b7)] _
      refine st82.trans ?_
      refine XS.astore X82.here hx rfl (hb hby at_81) rfl rfl (l' := #[iv i1, iv i2, iv i3, iv i4, iv i5, iv ca, iv cb, iv cc, iv cd, iv (3 : Int32), iv (1 : Int32), rv b7, .unset, .unset, .unset, .unset, .unset]) rfl ?_
      refine XS.iload X82.here hx rfl (hb hby at_83) rfl ?_
      show own_S p e below T82 m 85 #[iv i1, iv i2, iv i3, iv i4, iv i5, iv ca, iv cb, iv cc, iv cd, iv (3 : Int32), iv (1 : Int32), rv b7, .unset, .unset, .unset, .unset, .unset] [(.int (3 : Int32))] _
      refine XS.iconst X82.here hx rfl (hb hby at_85) ?_
      refine XS.icmpYes X82.here hx rfl (pc0 := 86) (pc' := 100) rfl (hb hby at_86) rfl (flt (by decide : ¬ ((3 : Int32) < (3 : Int32)))).2.2.2 (by decide) (by decide) ?_
      refine XS.iload X82.here hx rfl (hb hby at_100) rfl ?_
      show own_S p e below T82 m 102 #[iv i1, iv i2, iv i3, iv i4, iv i5, iv ca, iv cb, iv cc, iv cd, iv (3 : Int32), iv (1 : Int32), rv b7, .unset, .unset, .unset, .unset, .unset] [(.int (1 : Int32))] _
      refine XS.ifNo X82.here hx rfl (hb hby at_102) rfl ((if0 _ _).trans (feq (by decide : ¬ ((1 : Int32) = (0 : Int32)))).1) ?_
      refine XS.aload X82.here hx rfl (hb hby at_105) rfl rfl ?_
      refine XS.iload X82.here hx rfl (hb hby at_107) rfl ?_
      show own_S p e below T82 m 109 #[iv i1, iv i2, iv i3, iv i4, iv i5, iv ca, iv cb, iv cc, iv cd, iv (3 : Int32), iv (1 : Int32), rv b7, .unset, .unset, .unset, .unset, .unset] [(.int ca), (.ref b7)] _
      refine st84.trans ?_
      refine XS.astore X84.here hx rfl (hb hby at_114) rfl rfl (l' := #[iv i1, iv i2, iv i3, iv i4, iv i5, iv ca, iv cb, iv cc, iv cd, iv (3 : Int32), iv (1 : Int32), rv b7, .unset, .unset, .unset, .unset, .unset]) rfl ?_
      refine XS.iload X84.here hx rfl (hb hby at_116) rfl ?_
      show own_S p e below T84 m 118 #[iv i1, iv i2, iv i3, iv i4, iv i5, iv ca, iv cb, iv cc, iv cd, iv (3 : Int32), iv (1 : Int32), rv b7, .unset, .unset, .unset, .unset, .unset] [(.int ca)] _
      refine XS.istore X84.here hx rfl (hb hby at_118) rfl (l' := #[iv i1, iv i2, iv i3, iv i4, iv i5, iv ca, iv cb, iv cc, iv cd, iv (3 : Int32), iv (1 : Int32), rv b7, iv ca, .unset, .unset, .unset, .unset]) rfl ?_
      refine XS.iload X84.here hx rfl (hb hby at_120) rfl ?_
      refine XS.istore X84.here hx rfl (hb hby at_122) rfl (l' := #[iv i1, iv i2, iv i3, iv i4, iv i5, iv ca, iv cb, iv cc, iv cd, iv (3 : Int32), iv (1 : Int32), rv b7, iv ca, iv cb, .unset, .unset, .unset]) rfl ?_
      show own_S p e below T84 m 124 #[iv i1, iv i2, iv i3, iv i4, iv i5, iv ca, iv cb, iv cc, iv cd, iv (3 : Int32), iv (1 : Int32), rv b7, iv ca, iv cb, .unset, .unset, .unset] [] _
      refine XS.iload X84.here hx rfl (hb hby at_124) rfl ?_
      refine XS.istore X84.here hx rfl (hb hby at_126) rfl (l' := #[iv i1, iv i2, iv i3, iv i4, iv i5, iv ca, iv cb, iv cc, iv cd, iv (3 : Int32), iv (1 : Int32), rv b7, iv ca, iv cb, iv cc, .unset, .unset]) rfl ?_
      refine XS.iload X84.here hx rfl (hb hby at_128) rfl ?_
      show own_S p e below T84 m 130 #[iv i1, iv i2, iv i3, iv i4, iv i5, iv ca, iv cb, iv cc, iv cd, iv (3 : Int32), iv (1 : Int32), rv b7, iv ca, iv cb, iv cc, .unset, .unset] [(.int cd)] _
      refine XS.istore X84.here hx rfl (hb hby at_130) rfl (l' := #[iv i1, iv i2, iv i3, iv i4, iv i5, iv ca, iv cb, iv cc, iv cd, iv (3 : Int32), iv (1 : Int32), rv b7, iv ca, iv cb, iv cc, iv cd, .unset]) rfl ?_
      refine XS.iload X84.here hx rfl (hb hby at_132) rfl ?_
      refine XS.iload X84.here hx rfl (hb hby at_134) rfl ?_
      show own_S p e below T84 m 136 #[iv i1, iv i2, iv i3, iv i4, iv i5, iv ca, iv cb, iv cc, iv cd, iv (3 : Int32), iv (1 : Int32), rv b7, iv ca, iv cb, iv cc, iv cd, .unset] [(.int ca), (.int ca)] _
      refine XS.iload X84.here hx rfl (hb hby at_136) rfl ?_
      refine XS.iload X84.here hx rfl (hb hby at_138) rfl ?_
      refine XS.iload X84.here hx rfl (hb hby at_140) rfl ?_
      show own_S p e below T84 m 142 #[iv i1, iv i2, iv i3, iv i4, iv i5, iv ca, iv cb, iv cc, iv cd, iv (3 : Int32), iv (1 : Int32), rv b7, iv ca, iv cb, iv cc, iv cd, .unset] [(.int cd), (.int cc), (.int cb), (.int ca), (.int ca)] _
      refine XS.iload X84.here hx rfl (hb hby at_142) rfl ?_
      refine XS.iload X84.here hx rfl (hb hby at_144) rfl ?_
      refine st86 _ ?_
      show own_S p e below T86 m 149 #[iv i1, iv i2, iv i3, iv i4, iv i5, iv ca, iv cb, iv cc, iv cd, iv (3 : Int32), iv (1 : Int32), rv b7, iv ca, iv cb, iv cc, iv cd, .unset] [(.int (own_st ca ca cb cc cd (3 : Int32) (1 : Int32)))] _
      refine XS.istore X86.here hx rfl (hb hby at_149) rfl (l' := #[iv i1, iv i2, iv i3, iv i4, iv i5, iv ca, iv cb, iv cc, iv cd, iv (3 : Int32), iv (1 : Int32), rv b7, iv ca, iv cb, iv cc, iv cd, iv (own_st ca ca cb cc cd (3 : Int32) (1 : Int32))]) rfl ?_
      exact k)
    obtain ⟨e1, he1⟩ : ∃ z, z = own_st ca ca cb cc cd (3 : Int32) (1 : Int32) := ⟨_, rfl⟩
    rw [← he1] at pre88
    obtain ⟨Tj89, Lj89, Xj89, ej89, Nj89, e2, h_e2, prej89⟩ : ∃ (Tj : State) (Lj : List Loc), Stand p l e room_1 s m #[(.int i1), (.int i2), (.int i3), (.int i4), (.int i5)] below meth c Tj Lj 2 6 ∧ Tj.heap = T84.heap ∧ Fr n0 Lj ∧ ∃ e2 : Int32, (((cb = ca) ∧ e2 = e1) ∨ (¬ (cb = ca) ∧ e2 = e1 + own_st cb ca cb cc cd (3 : Int32) (1 : Int32))) ∧ ∀ tg, own_S p e below Tj m 186 #[iv i1, iv i2, iv i3, iv i4, iv i5, iv ca, iv cb, iv cc, iv cd, iv (3 : Int32), iv (1 : Int32), rv b7, iv ca, iv cb, iv cc, iv cd, iv e2] [] tg → Steps p.tables e below (s₁.setTop (entryFrame m #[(.int i1), (.int i2), (.int i3), (.int i4), (.int i5)] maxLocals)) tg := by
      have pre91 : ∀ tg, own_S p e below T86 m 161 #[iv i1, iv i2, iv i3, iv i4, iv i5, iv ca, iv cb, iv cc, iv cd, iv (3 : Int32), iv (1 : Int32), rv b7, iv ca, iv cb, iv cc, iv cd, iv e1] [(.int ca), (.int cb)] tg → Steps p.tables e below (s₁.setTop (entryFrame m #[(.int i1), (.int i2), (.int i3), (.int i4), (.int i5)] maxLocals)) tg := fun tg k => pre88 tg (by
        show own_S p e below T86 m 151 #[iv i1, iv i2, iv i3, iv i4, iv i5, iv ca, iv cb, iv cc, iv cd, iv (3 : Int32), iv (1 : Int32), rv b7, iv ca, iv cb, iv cc, iv cd, iv e1] [] _
        refine XS.iload X86.here hx rfl (hb hby at_151) rfl ?_
        refine XS.iconst X86.here hx rfl (hb hby at_153) ?_
        refine XS.icmpNo X86.here hx rfl (hb hby at_154) rfl (tlt (by decide : (1 : Int32) < (3 : Int32))).2.2.2 ?_
        show own_S p e below T86 m 157 #[iv i1, iv i2, iv i3, iv i4, iv i5, iv ca, iv cb, iv cc, iv cd, iv (3 : Int32), iv (1 : Int32), rv b7, iv ca, iv cb, iv cc, iv cd, iv e1] [] _
        refine XS.iload X86.here hx rfl (hb hby at_157) rfl ?_
        refine XS.iload X86.here hx rfl (hb hby at_159) rfl ?_
        exact k)
      by_cases hc161_90 : cb = ca
      ·  -- pc 161 yes
        have pre92 : ∀ tg, own_S p e below T86 m 186 #[iv i1, iv i2, iv i3, iv i4, iv i5, iv ca, iv cb, iv cc, iv cd, iv (3 : Int32), iv (1 : Int32), rv b7, iv ca, iv cb, iv cc, iv cd, iv e1] [] tg → Steps p.tables e below (s₁.setTop (entryFrame m #[(.int i1), (.int i2), (.int i3), (.int i4), (.int i5)] maxLocals)) tg := fun tg k => pre91 tg (by
          show own_S p e below T86 m 161 #[iv i1, iv i2, iv i3, iv i4, iv i5, iv ca, iv cb, iv cc, iv cd, iv (3 : Int32), iv (1 : Int32), rv b7, iv ca, iv cb, iv cc, iv cd, iv e1] [(.int ca), (.int cb)] _
          refine XS.icmpYes X86.here hx rfl (pc0 := 161) (pc' := 186) rfl (hb hby at_161) rfl (teq hc161_90).1 (by decide) (by decide) ?_
          exact k)
        exact ⟨T86, _, X86, e86, N86, e1, (by first | exact Or.inl ⟨by simp [hc161_90], rfl⟩ | exact Or.inr ⟨by simp [hc161_90], rfl⟩), pre92⟩
      ·  -- pc 161 no
        obtain ⟨_, _, ⟨T93, L93, k93, n93⟩, -, X93, ⟨Lc93, hQ93, l93, y93, z93⟩, st93⟩ := Jvm.LawKit.callS X86 hx (y := (⟨"com/example/bitstrata/bitstrata/ArrayContainerRunCountPinLaw", "starts", "(IIIIIIZ)I"⟩ : MethodName)) hown (mvT hZ (hw _ (List.mem_of_getElem? (i := 14) rfl))) (mvT hZ (hw _ (List.mem_of_getElem? (i := 15) rfl))) (mvT hZ (hw _ (List.mem_of_getElem? (i := 16) rfl))) (mvT hZ (hw _ (List.mem_of_getElem? (i := 17) rfl))) (by decide) (backOf (W := 1) (rmSt l Z a0 hw [] cb ca cb cc cd (3 : Int32) (1 : Int32) T84.heap n0 Zs87 ) hZ (hw _ (List.mem_of_getElem? (i := 17) rfl)) (hw _ (List.mem_of_getElem? (i := 16) rfl)) (by decide) (by decide)) (g := (mkF m 180 #[iv i1, iv i2, iv i3, iv i4, iv i5, iv ca, iv cb, iv cc, iv cd, iv (3 : Int32), iv (1 : Int32), rv b7, iv ca, iv cb, iv cc, iv cd, iv e1] [(.int (1 : Int32)), (.int (3 : Int32)), (.int cd), (.int cc), (.int cb), (.int ca), (.int cb), (.int e1)])) rfl (by rw [hml]; rfl) (argsL := [(.int cb), (.int ca), (.int cb), (.int cc), (.int cd), (.int (3 : Int32)), (.int (1 : Int32))]) (rest := [(.int e1)]) (lenOf pd_4 rfl) rfl (by show 2 * 0 + _ ≤ _; exact Nat.le_of_eq rfl) (hb hby at_180) (fun _ _ => ⟨rfl, e86, (by decide : 2 + 0 ≤ _), (by decide : 6 + 0 ≤ _)⟩)
        dsimp only [Pt.U, Pt.locs, Pt.cells, Pt.slots] at X93 l93 y93 z93 st93 hQ93
        subst l93 y93 z93
        obtain ⟨rfl, N93q, e93q⟩ := hQ93
        have N93 := Fr.app N86 N93q
        have e93 : T93.heap = T84.heap := e93q
        have pre94 : ∀ tg, own_S p e below T93 m 186 #[iv i1, iv i2, iv i3, iv i4, iv i5, iv ca, iv cb, iv cc, iv cd, iv (3 : Int32), iv (1 : Int32), rv b7, iv ca, iv cb, iv cc, iv cd, iv (e1 + (own_st cb ca cb cc cd (3 : Int32) (1 : Int32)))] [] tg → Steps p.tables e below (s₁.setTop (entryFrame m #[(.int i1), (.int i2), (.int i3), (.int i4), (.int i5)] maxLocals)) tg := fun tg k => pre91 tg (by
          show own_S p e below T86 m 161 #[iv i1, iv i2, iv i3, iv i4, iv i5, iv ca, iv cb, iv cc, iv cd, iv (3 : Int32), iv (1 : Int32), rv b7, iv ca, iv cb, iv cc, iv cd, iv e1] [(.int ca), (.int cb)] _
          refine XS.icmpNo X86.here hx rfl (hb hby at_161) rfl (feq hc161_90).1 ?_
          refine XS.iload X86.here hx rfl (hb hby at_164) rfl ?_
          refine XS.iload X86.here hx rfl (hb hby at_166) rfl ?_
          show own_S p e below T86 m 168 #[iv i1, iv i2, iv i3, iv i4, iv i5, iv ca, iv cb, iv cc, iv cd, iv (3 : Int32), iv (1 : Int32), rv b7, iv ca, iv cb, iv cc, iv cd, iv e1] [(.int cb), (.int e1)] _
          refine XS.iload X86.here hx rfl (hb hby at_168) rfl ?_
          refine XS.iload X86.here hx rfl (hb hby at_170) rfl ?_
          refine XS.iload X86.here hx rfl (hb hby at_172) rfl ?_
          show own_S p e below T86 m 174 #[iv i1, iv i2, iv i3, iv i4, iv i5, iv ca, iv cb, iv cc, iv cd, iv (3 : Int32), iv (1 : Int32), rv b7, iv ca, iv cb, iv cc, iv cd, iv e1] [(.int cc), (.int cb), (.int ca), (.int cb), (.int e1)] _
          refine XS.iload X86.here hx rfl (hb hby at_174) rfl ?_
          refine XS.iload X86.here hx rfl (hb hby at_176) rfl ?_
          refine XS.iload X86.here hx rfl (hb hby at_178) rfl ?_
          show own_S p e below T86 m 180 #[iv i1, iv i2, iv i3, iv i4, iv i5, iv ca, iv cb, iv cc, iv cd, iv (3 : Int32), iv (1 : Int32), rv b7, iv ca, iv cb, iv cc, iv cd, iv e1] [(.int (1 : Int32)), (.int (3 : Int32)), (.int cd), (.int cc), (.int cb), (.int ca), (.int cb), (.int e1)] _
          refine st93 _ ?_
          refine XS.iadd X93.here hx rfl (hb hby at_183) rfl ?_
          refine XS.istore X93.here hx rfl (hb hby at_184) rfl (l' := #[iv i1, iv i2, iv i3, iv i4, iv i5, iv ca, iv cb, iv cc, iv cd, iv (3 : Int32), iv (1 : Int32), rv b7, iv ca, iv cb, iv cc, iv cd, iv (e1 + (own_st cb ca cb cc cd (3 : Int32) (1 : Int32)))]) rfl ?_
          exact k)
        exact ⟨T93, _, X93, e93, N93, (e1 + (own_st cb ca cb cc cd (3 : Int32) (1 : Int32))), (by first | exact Or.inl ⟨by simp [hc161_90], rfl⟩ | exact Or.inr ⟨by simp [hc161_90], rfl⟩), pre94⟩
    obtain ⟨Tj95, Lj95, Xj95, ej95, Nj95, e3, h_e3, prej95⟩ : ∃ (Tj : State) (Lj : List Loc), Stand p l e room_1 s m #[(.int i1), (.int i2), (.int i3), (.int i4), (.int i5)] below meth c Tj Lj 2 6 ∧ Tj.heap = T84.heap ∧ Fr n0 Lj ∧ ∃ e3 : Int32, (((cc = ca ∨ cc = cb) ∧ e3 = e2) ∨ (¬ (cc = ca ∨ cc = cb) ∧ e3 = e2 + own_st cc ca cb cc cd (3 : Int32) (1 : Int32))) ∧ ∀ tg, own_S p e below Tj m 228 #[iv i1, iv i2, iv i3, iv i4, iv i5, iv ca, iv cb, iv cc, iv cd, iv (3 : Int32), iv (1 : Int32), rv b7, iv ca, iv cb, iv cc, iv cd, iv e3] [] tg → Steps p.tables e below (s₁.setTop (entryFrame m #[(.int i1), (.int i2), (.int i3), (.int i4), (.int i5)] maxLocals)) tg := by
      have pre97 : ∀ tg, own_S p e below Tj89 m 196 #[iv i1, iv i2, iv i3, iv i4, iv i5, iv ca, iv cb, iv cc, iv cd, iv (3 : Int32), iv (1 : Int32), rv b7, iv ca, iv cb, iv cc, iv cd, iv e2] [(.int ca), (.int cc)] tg → Steps p.tables e below (s₁.setTop (entryFrame m #[(.int i1), (.int i2), (.int i3), (.int i4), (.int i5)] maxLocals)) tg := fun tg k => prej89 tg (by
        show own_S p e below Tj89 m 186 #[iv i1, iv i2, iv i3, iv i4, iv i5, iv ca, iv cb, iv cc, iv cd, iv (3 : Int32), iv (1 : Int32), rv b7, iv ca, iv cb, iv cc, iv cd, iv e2] [] _
        refine XS.iload Xj89.here hx rfl (hb hby at_186) rfl ?_
        refine XS.iconst Xj89.here hx rfl (hb hby at_188) ?_
        refine XS.icmpNo Xj89.here hx rfl (hb hby at_189) rfl (tlt (by decide : (2 : Int32) < (3 : Int32))).2.2.2 ?_
        show own_S p e below Tj89 m 192 #[iv i1, iv i2, iv i3, iv i4, iv i5, iv ca, iv cb, iv cc, iv cd, iv (3 : Int32), iv (1 : Int32), rv b7, iv ca, iv cb, iv cc, iv cd, iv e2] [] _
        refine XS.iload Xj89.here hx rfl (hb hby at_192) rfl ?_
        refine XS.iload Xj89.here hx rfl (hb hby at_194) rfl ?_
        exact k)
      by_cases hc196_96 : cc = ca
      ·  -- pc 196 yes
        have pre98 : ∀ tg, own_S p e below Tj89 m 228 #[iv i1, iv i2, iv i3, iv i4, iv i5, iv ca, iv cb, iv cc, iv cd, iv (3 : Int32), iv (1 : Int32), rv b7, iv ca, iv cb, iv cc, iv cd, iv e2] [] tg → Steps p.tables e below (s₁.setTop (entryFrame m #[(.int i1), (.int i2), (.int i3), (.int i4), (.int i5)] maxLocals)) tg := fun tg k => pre97 tg (by
          show own_S p e below Tj89 m 196 #[iv i1, iv i2, iv i3, iv i4, iv i5, iv ca, iv cb, iv cc, iv cd, iv (3 : Int32), iv (1 : Int32), rv b7, iv ca, iv cb, iv cc, iv cd, iv e2] [(.int ca), (.int cc)] _
          refine XS.icmpYes Xj89.here hx rfl (pc0 := 196) (pc' := 228) rfl (hb hby at_196) rfl (teq hc196_96).1 (by decide) (by decide) ?_
          exact k)
        exact ⟨Tj89, _, Xj89, ej89, Nj89, e2, (by first | exact Or.inl ⟨by simp [hc196_96], rfl⟩ | exact Or.inr ⟨by simp [hc196_96], rfl⟩), pre98⟩
      ·  -- pc 196 no
        have pre100 : ∀ tg, own_S p e below Tj89 m 203 #[iv i1, iv i2, iv i3, iv i4, iv i5, iv ca, iv cb, iv cc, iv cd, iv (3 : Int32), iv (1 : Int32), rv b7, iv ca, iv cb, iv cc, iv cd, iv e2] [(.int cb), (.int cc)] tg → Steps p.tables e below (s₁.setTop (entryFrame m #[(.int i1), (.int i2), (.int i3), (.int i4), (.int i5)] maxLocals)) tg := fun tg k => pre97 tg (by
          show own_S p e below Tj89 m 196 #[iv i1, iv i2, iv i3, iv i4, iv i5, iv ca, iv cb, iv cc, iv cd, iv (3 : Int32), iv (1 : Int32), rv b7, iv ca, iv cb, iv cc, iv cd, iv e2] [(.int ca), (.int cc)] _
          refine XS.icmpNo Xj89.here hx rfl (hb hby at_196) rfl (feq hc196_96).1 ?_
          refine XS.iload Xj89.here hx rfl (hb hby at_199) rfl ?_
          refine XS.iload Xj89.here hx rfl (hb hby at_201) rfl ?_
          exact k)
        by_cases hc203_99 : cc = cb
        ·  -- pc 203 yes
          have pre101 : ∀ tg, own_S p e below Tj89 m 228 #[iv i1, iv i2, iv i3, iv i4, iv i5, iv ca, iv cb, iv cc, iv cd, iv (3 : Int32), iv (1 : Int32), rv b7, iv ca, iv cb, iv cc, iv cd, iv e2] [] tg → Steps p.tables e below (s₁.setTop (entryFrame m #[(.int i1), (.int i2), (.int i3), (.int i4), (.int i5)] maxLocals)) tg := fun tg k => pre100 tg (by
            show own_S p e below Tj89 m 203 #[iv i1, iv i2, iv i3, iv i4, iv i5, iv ca, iv cb, iv cc, iv cd, iv (3 : Int32), iv (1 : Int32), rv b7, iv ca, iv cb, iv cc, iv cd, iv e2] [(.int cb), (.int cc)] _
            refine XS.icmpYes Xj89.here hx rfl (pc0 := 203) (pc' := 228) rfl (hb hby at_203) rfl (teq hc203_99).1 (by decide) (by decide) ?_
            exact k)
          exact ⟨Tj89, _, Xj89, ej89, Nj89, e2, (by first | exact Or.inl ⟨by simp [hc196_96, hc203_99], rfl⟩ | exact Or.inr ⟨by simp [hc196_96, hc203_99], rfl⟩), pre101⟩
        ·  -- pc 203 no
          obtain ⟨_, _, ⟨T102, L102, k102, n102⟩, -, X102, ⟨Lc102, hQ102, l102, y102, z102⟩, st102⟩ := Jvm.LawKit.callS Xj89 hx (y := (⟨"com/example/bitstrata/bitstrata/ArrayContainerRunCountPinLaw", "starts", "(IIIIIIZ)I"⟩ : MethodName)) hown (mvT hZ (hw _ (List.mem_of_getElem? (i := 14) rfl))) (mvT hZ (hw _ (List.mem_of_getElem? (i := 15) rfl))) (mvT hZ (hw _ (List.mem_of_getElem? (i := 16) rfl))) (mvT hZ (hw _ (List.mem_of_getElem? (i := 17) rfl))) (by decide) (backOf (W := 1) (rmSt l Z a0 hw [] cc ca cb cc cd (3 : Int32) (1 : Int32) T84.heap n0 Zs87 ) hZ (hw _ (List.mem_of_getElem? (i := 17) rfl)) (hw _ (List.mem_of_getElem? (i := 16) rfl)) (by decide) (by decide)) (g := (mkF m 222 #[iv i1, iv i2, iv i3, iv i4, iv i5, iv ca, iv cb, iv cc, iv cd, iv (3 : Int32), iv (1 : Int32), rv b7, iv ca, iv cb, iv cc, iv cd, iv e2] [(.int (1 : Int32)), (.int (3 : Int32)), (.int cd), (.int cc), (.int cb), (.int ca), (.int cc), (.int e2)])) rfl (by rw [hml]; rfl) (argsL := [(.int cc), (.int ca), (.int cb), (.int cc), (.int cd), (.int (3 : Int32)), (.int (1 : Int32))]) (rest := [(.int e2)]) (lenOf pd_4 rfl) rfl (by show 2 * 0 + _ ≤ _; exact Nat.le_of_eq rfl) (hb hby at_222) (fun _ _ => ⟨rfl, ej89, (by decide : 2 + 0 ≤ _), (by decide : 6 + 0 ≤ _)⟩)
          dsimp only [Pt.U, Pt.locs, Pt.cells, Pt.slots] at X102 l102 y102 z102 st102 hQ102
          subst l102 y102 z102
          obtain ⟨rfl, N102q, e102q⟩ := hQ102
          have N102 := Fr.app Nj89 N102q
          have e102 : T102.heap = T84.heap := e102q
          have pre103 : ∀ tg, own_S p e below T102 m 228 #[iv i1, iv i2, iv i3, iv i4, iv i5, iv ca, iv cb, iv cc, iv cd, iv (3 : Int32), iv (1 : Int32), rv b7, iv ca, iv cb, iv cc, iv cd, iv (e2 + (own_st cc ca cb cc cd (3 : Int32) (1 : Int32)))] [] tg → Steps p.tables e below (s₁.setTop (entryFrame m #[(.int i1), (.int i2), (.int i3), (.int i4), (.int i5)] maxLocals)) tg := fun tg k => pre100 tg (by
            show own_S p e below Tj89 m 203 #[iv i1, iv i2, iv i3, iv i4, iv i5, iv ca, iv cb, iv cc, iv cd, iv (3 : Int32), iv (1 : Int32), rv b7, iv ca, iv cb, iv cc, iv cd, iv e2] [(.int cb), (.int cc)] _
            refine XS.icmpNo Xj89.here hx rfl (hb hby at_203) rfl (feq hc203_99).1 ?_
            refine XS.iload Xj89.here hx rfl (hb hby at_206) rfl ?_
            refine XS.iload Xj89.here hx rfl (hb hby at_208) rfl ?_
            show own_S p e below Tj89 m 210 #[iv i1, iv i2, iv i3, iv i4, iv i5, iv ca, iv cb, iv cc, iv cd, iv (3 : Int32), iv (1 : Int32), rv b7, iv ca, iv cb, iv cc, iv cd, iv e2] [(.int cc), (.int e2)] _
            refine XS.iload Xj89.here hx rfl (hb hby at_210) rfl ?_
            refine XS.iload Xj89.here hx rfl (hb hby at_212) rfl ?_
            refine XS.iload Xj89.here hx rfl (hb hby at_214) rfl ?_
            show own_S p e below Tj89 m 216 #[iv i1, iv i2, iv i3, iv i4, iv i5, iv ca, iv cb, iv cc, iv cd, iv (3 : Int32), iv (1 : Int32), rv b7, iv ca, iv cb, iv cc, iv cd, iv e2] [(.int cc), (.int cb), (.int ca), (.int cc), (.int e2)] _
            refine XS.iload Xj89.here hx rfl (hb hby at_216) rfl ?_
            refine XS.iload Xj89.here hx rfl (hb hby at_218) rfl ?_
            refine XS.iload Xj89.here hx rfl (hb hby at_220) rfl ?_
            show own_S p e below Tj89 m 222 #[iv i1, iv i2, iv i3, iv i4, iv i5, iv ca, iv cb, iv cc, iv cd, iv (3 : Int32), iv (1 : Int32), rv b7, iv ca, iv cb, iv cc, iv cd, iv e2] [(.int (1 : Int32)), (.int (3 : Int32)), (.int cd), (.int cc), (.int cb), (.int ca), (.int cc), (.int e2)] _
            refine st102 _ ?_
            refine XS.iadd X102.here hx rfl (hb hby at_225) rfl ?_
            refine XS.istore X102.here hx rfl (hb hby at_226) rfl (l' := #[iv i1, iv i2, iv i3, iv i4, iv i5, iv ca, iv cb, iv cc, iv cd, iv (3 : Int32), iv (1 : Int32), rv b7, iv ca, iv cb, iv cc, iv cd, iv (e2 + (own_st cc ca cb cc cd (3 : Int32) (1 : Int32)))]) rfl ?_
            exact k)
          exact ⟨T102, _, X102, e102, N102, (e2 + (own_st cc ca cb cc cd (3 : Int32) (1 : Int32))), (by first | exact Or.inl ⟨by simp [hc196_96, hc203_99], rfl⟩ | exact Or.inr ⟨by simp [hc196_96, hc203_99], rfl⟩), pre103⟩
    have pre104 : ∀ tg, own_S p e below Tj95 m 277 #[iv i1, iv i2, iv i3, iv i4, iv i5, iv ca, iv cb, iv cc, iv cd, iv (3 : Int32), iv (1 : Int32), rv b7, iv ca, iv cb, iv cc, iv cd, iv e3] [] tg → Steps p.tables e below (s₁.setTop (entryFrame m #[(.int i1), (.int i2), (.int i3), (.int i4), (.int i5)] maxLocals)) tg := fun tg k => prej95 tg (by
      show own_S p e below Tj95 m 228 #[iv i1, iv i2, iv i3, iv i4, iv i5, iv ca, iv cb, iv cc, iv cd, iv (3 : Int32), iv (1 : Int32), rv b7, iv ca, iv cb, iv cc, iv cd, iv e3] [] _
      refine XS.iload Xj95.here hx rfl (hb hby at_228) rfl ?_
      refine XS.iconst Xj95.here hx rfl (hb hby at_230) ?_
      refine XS.icmpYes Xj95.here hx rfl (pc0 := 231) (pc' := 277) rfl (hb hby at_231) rfl (flt (by decide : ¬ ((3 : Int32) < (3 : Int32)))).2.2.2 (by decide) (by decide) ?_
      exact k)
    obtain ⟨dd, hdd, hsum, hmd⟩ := own_dd3 (fun x => own_st x ca cb cc cd (3 : Int32) (1 : Int32)) ca cb cc e1 e2 e3 he1 h_e2 h_e3
    have hset : ∀ x, x ∈ ys84 ↔ own_set ca cb cc cd (3 : Int32) (1 : Int32) x := fun x => by
      rw [hm84]; rw [hm82]; rw [hm80]; rw [hm8]
      simp only [own_set, (by decide : (1 : Int32) < 3), (by decide : (2 : Int32) < 3), (by decide : ¬ (3 : Int32) < 3), true_and, false_and, or_false, false_or, (by decide : ¬ (1 : Int32) = 0), and_true, and_false]
      try (by_cases q : x = ca <;> simp [q, or_assoc])
    have hfin : own_runs ys84 = e3 := by
      rw [hsum]
      refine own_plain hs84 (own_rng_of hch84) hdd (fun x hx => (hmd x).mpr ?_) (fun x => own_st_f hset x)
      have := (hset x).mp hx
      simp only [own_set, (by decide : (1 : Int32) < 3), (by decide : (2 : Int32) < 3), (by decide : ¬ (3 : Int32) < 3), true_and, false_and, or_false, false_or] at this
      rcases this with this | this
      · simp [this.1]
      · rcases this.2 with h | h <;> simp [h]
    obtain ⟨cq105, kq105, q105a, q105b, q105c⟩ := isOf hZ ej95 E84c
    obtain ⟨_, _, ⟨T105, L105, k105, n105⟩, -, X105, ⟨Lc105, hQ105, l105, y105, z105⟩, st105⟩ := Xj95.interfaceBack hx (xi := (⟨"com/example/bitstrata/bitstrata/Container", "runCount", "()I"⟩ : MethodName)) (y := (⟨"com/example/bitstrata/bitstrata/ArrayContainer", "runCount", "()I"⟩ : MethodName)) hown (mvT hZ (hw _ (List.mem_of_getElem? (i := 21) rfl))) (mvT hZ (hw _ (List.mem_of_getElem? (i := 22) rfl))) (mvT hZ (hw _ (List.mem_of_getElem? (i := 23) rfl))) (mvT hZ (hw _ (List.mem_of_getElem? (i := 24) rfl))) (mvT hZ (hw _ (List.mem_of_getElem? (i := 25) rfl))) (mvT hZ (hw _ (List.mem_of_getElem? (i := 26) rfl))) (mvT hZ (hw _ (List.mem_of_getElem? (i := 27) rfl))) (mvT hZ (hw _ (List.mem_of_getElem? (i := 28) rfl))) (by decide) (backOf (W := 0) (rmRun l Z a0 hw [] b7 u82 ku82 ys84 vs84 T84.heap n0 Zs87 Fv84 Fc84 V84u l2_84 pr84) hZ (hw _ (List.mem_of_getElem? (i := 29) rfl)) (hw _ (List.mem_of_getElem? (i := 2) rfl)) (by decide) (by decide)) q105a q105b q105c (g := (mkF m 279 #[iv i1, iv i2, iv i3, iv i4, iv i5, iv ca, iv cb, iv cc, iv cd, iv (3 : Int32), iv (1 : Int32), rv b7, iv ca, iv cb, iv cc, iv cd, iv e3] [(.ref b7)])) rfl (by rw [hml]; rfl) (Steps.refl _) (argsL := []) (rest := []) (lenOf pd_5 rfl) rfl (by show 2 * 0 + _ ≤ _; exact Nat.le_of_eq rfl) (hb hby at_279) (fun _ _ => ⟨rfl, ej95, (by decide : 2 + 0 ≤ _), (by decide : 6 + 0 ≤ _)⟩)
    dsimp only [Pt.U, Pt.locs, Pt.cells, Pt.slots] at X105 l105 y105 z105 st105 hQ105
    subst l105 y105 z105
    obtain ⟨rfl, N105q, e105q⟩ := hQ105
    have N105 := Fr.app Nj95 N105q
    have e105 : T105.heap = T84.heap := e105q
    have pre106 : ∀ tg, own_S p e below T105 m 294 #[iv i1, iv i2, iv i3, iv i4, iv i5, iv ca, iv cb, iv cc, iv cd, iv (3 : Int32), iv (1 : Int32), rv b7, iv ca, iv cb, iv cc, iv cd, iv e3] [(.int (1 : Int32))] tg → Steps p.tables e below (s₁.setTop (entryFrame m #[(.int i1), (.int i2), (.int i3), (.int i4), (.int i5)] maxLocals)) tg := fun tg k => pre104 tg (by
      show own_S p e below Tj95 m 277 #[iv i1, iv i2, iv i3, iv i4, iv i5, iv ca, iv cb, iv cc, iv cd, iv (3 : Int32), iv (1 : Int32), rv b7, iv ca, iv cb, iv cc, iv cd, iv e3] [] _
      refine XS.aload Xj95.here hx rfl (hb hby at_277) rfl rfl ?_
      refine st105.trans ?_
      refine XS.iload X105.here hx rfl (hb hby at_284) rfl ?_
      show own_S p e below T105 m 286 #[iv i1, iv i2, iv i3, iv i4, iv i5, iv ca, iv cb, iv cc, iv cd, iv (3 : Int32), iv (1 : Int32), rv b7, iv ca, iv cb, iv cc, iv cd, iv e3] [(.int e3), (.int (own_runs ys84))] _
      refine XS.icmpNo X105.here hx rfl (hb hby at_286) rfl (teq hfin).2 ?_
      refine XS.iconst X105.here hx rfl (hb hby at_289) ?_
      refine XS.goto X105.here hx rfl (pc0 := 290) (pc' := 294) rfl (hb hby at_290) (by decide) (by decide) ?_
      exact k)
    obtain ⟨fs, hr, hrun, hended, hW, hsame⟩ := X105.leave (v := some (.int (nar .boolean (1 : Int32)))) (fun h => by rw [Bd.returns] at h; cases h)
    refine ⟨_, _, pre106 _ ?_, hrun, hended, _, _, rfl, ?_, ⟨_, rfl⟩, hW, hsame.mono (by decide) (by decide)⟩
    · show own_S p e below T105 m 294 #[iv i1, iv i2, iv i3, iv i4, iv i5, iv ca, iv cb, iv cc, iv cd, iv (3 : Int32), iv (1 : Int32), rv b7, iv ca, iv cb, iv cc, iv cd, iv e3] [(.int (1 : Int32))] _
      exact retN X105 hx (t := .boolean) Bd.returns (by simp) (hb hby at_294) hr
    · show Q0 Z i1 i2 i3 i4 i5 h0 n0 _ T105.heap _
      rw [e105]
      exact ⟨rfl, N105⟩
  ·  -- case
    have Zs108 : n0 ≤ T8.heap.size := (Nat.le_trans Zs9 K8.1)
    obtain ⟨cq107, kq107, q107a, q107b, q107c⟩ := isOf hZ rfl E8c
    obtain ⟨_, _, ⟨T107, L107, k107, n107⟩, -, X107, ⟨Lc107, hQ107, l107, y107, z107⟩, st107⟩ := X8.interfaceBack hx (xi := (⟨"com/example/bitstrata/bitstrata/Container", "add", "(C)Lcom/example/bitstrata/bitstrata/Container;"⟩ : MethodName)) (y := (⟨"com/example/bitstrata/bitstrata/ArrayContainer", "add", "(C)Lcom/example/bitstrata/bitstrata/Container;"⟩ : MethodName)) hown (mvT hZ (hw _ (List.mem_of_getElem? (i := 30) rfl))) (mvT hZ (hw _ (List.mem_of_getElem? (i := 31) rfl))) (mvT hZ (hw _ (List.mem_of_getElem? (i := 32) rfl))) (mvT hZ (hw _ (List.mem_of_getElem? (i := 33) rfl))) (mvT hZ (hw _ (List.mem_of_getElem? (i := 34) rfl))) (mvT hZ (hw _ (List.mem_of_getElem? (i := 35) rfl))) (mvT hZ (hw _ (List.mem_of_getElem? (i := 36) rfl))) (mvT hZ (hw _ (List.mem_of_getElem? (i := 28) rfl))) (by decide) (backOf (W := 0) (rmAdd l Z a0 hw [] b7 cb t8 k_8 [ca] T8.heap n0 Zs108 E8c g_b7 g_t8 Fv8 Fcb8 Vb8 ne_t8 (Nat.le_refl 1 : 1 ≤ [ca].length) (by omega) (trivial : own_srt [ca]) (by intro x hx; cases List.mem_singleton.mp hx; exact hk_ca : own_chs [ca]) hk_cb) hZ (hw _ (List.mem_of_getElem? (i := 37) rfl)) (hw _ (List.mem_of_getElem? (i := 2) rfl)) (by decide) (by decide)) q107a q107b q107c (g := (mkF m 59 #[iv i1, iv i2, iv i3, iv i4, iv i5, iv ca, iv cb, iv cc, iv cd, iv (4 : Int32), iv (0 : Int32), rv b7, .unset, .unset, .unset, .unset, .unset] [(.int cb), (.ref b7)])) rfl (by rw [hml]; rfl) (Steps.refl _) (argsL := [(.int cb)]) (rest := []) (lenOf pd_6 rfl) rfl (by show 2 * 0 + _ ≤ _; exact Nat.le_of_eq rfl) (hb hby at_59) (fun _ _ => ⟨rfl, rfl, (by decide : 2 + 0 ≤ _), (by decide : 6 + 0 ≤ _)⟩)
    dsimp only [Pt.U, Pt.locs, Pt.cells, Pt.slots] at X107 l107 y107 z107 st107 hQ107
    subst l107 y107 z107
    obtain ⟨ys107, u107, ku107, rfl, N107q, K107, E107c, Fv107, Fc107, V107u, g_u107, ne_u107, -, l1_107, l2_107, hs107, hch107, hm107⟩ := hQ107
    have N107 := Fr.app N8 N107q
    have Zs110 : n0 ≤ T107.heap.size := (Nat.le_trans Zs108 K107.1)
    obtain ⟨cq109, kq109, q109a, q109b, q109c⟩ := isOf hZ rfl E107c
    obtain ⟨_, _, ⟨T109, L109, k109, n109⟩, -, X109, ⟨Lc109, hQ109, l109, y109, z109⟩, st109⟩ := X107.interfaceBack hx (xi := (⟨"com/example/bitstrata/bitstrata/Container", "add", "(C)Lcom/example/bitstrata/bitstrata/Container;"⟩ : MethodName)) (y := (⟨"com/example/bitstrata/bitstrata/ArrayContainer", "add", "(C)Lcom/example/bitstrata/bitstrata/Container;"⟩ : MethodName)) hown (mvT hZ (hw _ (List.mem_of_getElem? (i := 30) rfl))) (mvT hZ (hw _ (List.mem_of_getElem? (i := 31) rfl))) (mvT hZ (hw _ (List.mem_of_getElem? (i := 32) rfl))) (mvT hZ (hw _ (List.mem_of_getElem? (i := 33) rfl))) (mvT hZ (hw _ (List.mem_of_getElem? (i := 34) rfl))) (mvT hZ (hw _ (List.mem_of_getElem? (i := 35) rfl))) (mvT hZ (hw _ (List.mem_of_getElem? (i := 36) rfl))) (mvT hZ (hw _ (List.mem_of_getElem? (i := 28) rfl))) (by decide) (backOf (W := 0) (rmAdd l Z a0 hw [] b7 cc u107 ku107 ys107 T107.heap n0 Zs110 E107c g_b7 g_u107 Fv107 Fc107 V107u ne_u107 l1_107 (by omega) hs107 hch107 hk_cc) hZ (hw _ (List.mem_of_getElem? (i := 37) rfl)) (hw _ (List.mem_of_getElem? (i := 2) rfl)) (by decide) (by decide)) q109a q109b q109c (g := (mkF m 76 #[iv i1, iv i2, iv i3, iv i4, iv i5, iv ca, iv cb, iv cc, iv cd, iv (4 : Int32), iv (0 : Int32), rv b7, .unset, .unset, .unset, .unset, .unset] [(.int cc), (.ref b7)])) rfl (by rw [hml]; rfl) (Steps.refl _) (argsL := [(.int cc)]) (rest := []) (lenOf pd_6 rfl) rfl (by show 2 * 0 + _ ≤ _; exact Nat.le_of_eq rfl) (hb hby at_76) (fun _ _ => ⟨rfl, rfl, (by decide : 2 + 0 ≤ _), (by decide : 6 + 0 ≤ _)⟩)
    dsimp only [Pt.U, Pt.locs, Pt.cells, Pt.slots] at X109 l109 y109 z109 st109 hQ109
    subst l109 y109 z109
    obtain ⟨ys109, u109, ku109, rfl, N109q, K109, E109c, Fv109, Fc109, V109u, g_u109, ne_u109, -, l1_109, l2_109, hs109, hch109, hm109⟩ := hQ109
    have N109 := Fr.app N107 N109q
    have Zs112 : n0 ≤ T109.heap.size := (Nat.le_trans Zs110 K109.1)
    obtain ⟨cq111, kq111, q111a, q111b, q111c⟩ := isOf hZ rfl E109c
    obtain ⟨_, _, ⟨T111, L111, k111, n111⟩, -, X111, ⟨Lc111, hQ111, l111, y111, z111⟩, st111⟩ := X109.interfaceBack hx (xi := (⟨"com/example/bitstrata/bitstrata/Container", "add", "(C)Lcom/example/bitstrata/bitstrata/Container;"⟩ : MethodName)) (y := (⟨"com/example/bitstrata/bitstrata/ArrayContainer", "add", "(C)Lcom/example/bitstrata/bitstrata/Container;"⟩ : MethodName)) hown (mvT hZ (hw _ (List.mem_of_getElem? (i := 30) rfl))) (mvT hZ (hw _ (List.mem_of_getElem? (i := 31) rfl))) (mvT hZ (hw _ (List.mem_of_getElem? (i := 32) rfl))) (mvT hZ (hw _ (List.mem_of_getElem? (i := 33) rfl))) (mvT hZ (hw _ (List.mem_of_getElem? (i := 34) rfl))) (mvT hZ (hw _ (List.mem_of_getElem? (i := 35) rfl))) (mvT hZ (hw _ (List.mem_of_getElem? (i := 36) rfl))) (mvT hZ (hw _ (List.mem_of_getElem? (i := 28) rfl))) (by decide) (backOf (W := 0) (rmAdd l Z a0 hw [] b7 cd u109 ku109 ys109 T109.heap n0 Zs112 E109c g_b7 g_u109 Fv109 Fc109 V109u ne_u109 l1_109 (by omega) hs109 hch109 hk_cd) hZ (hw _ (List.mem_of_getElem? (i := 37) rfl)) (hw _ (List.mem_of_getElem? (i := 2) rfl)) (by decide) (by decide)) q111a q111b q111c (g := (mkF m 93 #[iv i1, iv i2, iv i3, iv i4, iv i5, iv ca, iv cb, iv cc, iv cd, iv (4 : Int32), iv (0 : Int32), rv b7, .unset, .unset, .unset, .unset, .unset] [(.int cd), (.ref b7)])) rfl (by rw [hml]; rfl) (Steps.refl _) (argsL := [(.int cd)]) (rest := []) (lenOf pd_6 rfl) rfl (by show 2 * 0 + _ ≤ _; exact Nat.le_of_eq rfl) (hb hby at_93) (fun _ _ => ⟨rfl, rfl, (by decide : 2 + 0 ≤ _), (by decide : 6 + 0 ≤ _)⟩)
    dsimp only [Pt.U, Pt.locs, Pt.cells, Pt.slots] at X111 l111 y111 z111 st111 hQ111
    subst l111 y111 z111
    obtain ⟨ys111, u111, ku111, rfl, N111q, K111, E111c, Fv111, Fc111, V111u, g_u111, ne_u111, -, l1_111, l2_111, hs111, hch111, hm111⟩ := hQ111
    have N111 := Fr.app N109 N111q
    have Zs114 : n0 ≤ T111.heap.size := (Nat.le_trans Zs112 K111.1)
    obtain ⟨_, _, ⟨T113, L113, k113, n113⟩, -, X113, ⟨Lc113, hQ113, l113, y113, z113⟩, st113⟩ := Jvm.LawKit.callS X111 hx (y := (⟨"com/example/bitstrata/bitstrata/ArrayContainerRunCountPinLaw", "starts", "(IIIIIIZ)I"⟩ : MethodName)) hown (mvT hZ (hw _ (List.mem_of_getElem? (i := 14) rfl))) (mvT hZ (hw _ (List.mem_of_getElem? (i := 15) rfl))) (mvT hZ (hw _ (List.mem_of_getElem? (i := 16) rfl))) (mvT hZ (hw _ (List.mem_of_getElem? (i := 17) rfl))) (by decide) (backOf (W := 0) (rmSt l Z a0 hw [] ca ca cb cc cd (4 : Int32) (0 : Int32) T111.heap n0 Zs114 ) hZ (hw _ (List.mem_of_getElem? (i := 17) rfl)) (hw _ (List.mem_of_getElem? (i := 16) rfl)) (by decide) (by decide)) (g := (mkF m 146 #[iv i1, iv i2, iv i3, iv i4, iv i5, iv ca, iv cb, iv cc, iv cd, iv (4 : Int32), iv (0 : Int32), rv b7, iv ca, iv cb, iv cc, iv cd, .unset] [(.int (0 : Int32)), (.int (4 : Int32)), (.int cd), (.int cc), (.int cb), (.int ca), (.int ca)])) rfl (by rw [hml]; rfl) (argsL := [(.int ca), (.int ca), (.int cb), (.int cc), (.int cd), (.int (4 : Int32)), (.int (0 : Int32))]) (rest := []) (lenOf pd_4 rfl) rfl (by show 2 * 0 + _ ≤ _; exact Nat.le_of_eq rfl) (hb hby at_146) (fun _ _ => ⟨rfl, rfl, (by decide : 2 + 0 ≤ _), (by decide : 6 + 0 ≤ _)⟩)
    dsimp only [Pt.U, Pt.locs, Pt.cells, Pt.slots] at X113 l113 y113 z113 st113 hQ113
    subst l113 y113 z113
    obtain ⟨rfl, N113q, e113q⟩ := hQ113
    have N113 := Fr.app N111 N113q
    have e113 : T113.heap = T111.heap := e113q
    have pre115 : ∀ tg, own_S p e below T113 m 151 #[iv i1, iv i2, iv i3, iv i4, iv i5, iv ca, iv cb, iv cc, iv cd, iv (4 : Int32), iv (0 : Int32), rv b7, iv ca, iv cb, iv cc, iv cd, iv (own_st ca ca cb cc cd (4 : Int32) (0 : Int32))] [] tg → Steps p.tables e below (s₁.setTop (entryFrame m #[(.int i1), (.int i2), (.int i3), (.int i4), (.int i5)] maxLocals)) tg := fun tg k => pre10 tg (by
      show own_S p e below T8 m 49 #[iv i1, iv i2, iv i3, iv i4, iv i5, iv ca, iv cb, iv cc, iv cd, iv (4 : Int32), iv (0 : Int32), rv b7, .unset, .unset, .unset, .unset, .unset] [] _
      refine XS.iload X8.here hx rfl (hb hby at_49) rfl ?_
      refine XS.iconst X8.here hx rfl (hb hby at_51) ?_
      refine XS.icmpNo X8.here hx rfl (hb hby at_52) rfl (tlt (by decide : (1 : Int32) < (4 : Int32))).2.2.2 ?_
      show own_S p e below T8 m 55 #[iv i1, iv i2, iv i3, iv i4, iv i5, iv ca, iv cb, iv cc, iv cd, iv (4 : Int32), iv (0 : Int32), rv b7, .unset, .unset, .unset, .unset, .unset] [] _
      refine XS.aload X8.here hx rfl (hb hby at_55) rfl rfl ?_
      refine XS.iload X8.here hx rfl (hb hby at_57) rfl ?_
      refine st107.trans ?_
      show own_S p e below T107 m 64 #[iv i1, iv i2, iv i3, iv i4, iv i5, iv ca, iv cb, iv cc, iv cd, iv (4 : Int32), iv (0 : Int32), rv b7, .unset, .unset, .unset, .unset, .unset] [(.ref b7)] _
      refine XS.astore X107.here hx rfl (hb hby at_64) rfl rfl (l' := #[iv i1, iv i2, iv i3, iv i4, iv i5, iv ca, iv cb, iv cc, iv cd, iv (4 : Int32), iv (0 : Int32), rv b7, .unset, .unset, .unset, .unset, .unset]) rfl ?_
      refine XS.iload X107.here hx rfl (hb hby at_66) rfl ?_
      refine XS.iconst X107.here hx rfl (hb hby at_68) ?_
      show own_S p e below T107 m 69 #[iv i1, iv i2, iv i3, iv i4, iv i5, iv ca, iv cb, iv cc, iv cd, iv (4 : Int32), iv (0 : Int32), rv b7, .unset, .unset, .unset, .unset, .unset] [(.int (2 : Int32)), (.int (4 : Int32))] _
      refine XS.icmpNo X107.here hx rfl (hb hby at_69) rfl (tlt (by decide : (2 : Int32) < (4 : Int32))).2.2.2 ?_
      refine XS.aload X107.here hx rfl (hb hby at_72) rfl rfl ?_
      refine XS.iload X107.here hx rfl (hb hby at_74) rfl ?_
      show own_S p e below T107 m 76 #[iv i1, iv i2, iv i3, iv i4, iv i5, iv ca, iv cb, iv cc, iv cd, iv (4 : Int32), iv (0 : Int32), rv b7, .unset, .unset, .unset, .unset, .unset] [(.int cc), (.ref b7)] _
      refine st109.trans ?_
      refine XS.astore X109.here hx rfl (hb hby at_81) rfl rfl (l' := #[iv i1, iv i2, iv i3, iv i4, iv i5, iv ca, iv cb, iv cc, iv cd, iv (4 : Int32), iv (0 : Int32), rv b7, .unset, .unset, .unset, .unset, .unset]) rfl ?_
      refine XS.iload X109.here hx rfl (hb hby at_83) rfl ?_
      show own_S p e below T109 m 85 #[iv i1, iv i2, iv i3, iv i4, iv i5, iv ca, iv cb, iv cc, iv cd, iv (4 : Int32), iv (0 : Int32), rv b7, .unset, .unset, .unset, .unset, .unset] [(.int (4 : Int32))] _
      refine XS.iconst X109.here hx rfl (hb hby at_85) ?_
      refine XS.icmpNo X109.here hx rfl (hb hby at_86) rfl (tlt (by decide : (3 : Int32) < (4 : Int32))).2.2.2 ?_
      refine XS.aload X109.here hx rfl (hb hby at_89) rfl rfl ?_
      show own_S p e below T109 m 91 #[iv i1, iv i2, iv i3, iv i4, iv i5, iv ca, iv cb, iv cc, iv cd, iv (4 : Int32), iv (0 : Int32), rv b7, .unset, .unset, .unset, .unset, .unset] [(.ref b7)] _
      refine XS.iload X109.here hx rfl (hb hby at_91) rfl ?_
      refine st111.trans ?_
      refine XS.astore X111.here hx rfl (hb hby at_98) rfl rfl (l' := #[iv i1, iv i2, iv i3, iv i4, iv i5, iv ca, iv cb, iv cc, iv cd, iv (4 : Int32), iv (0 : Int32), rv b7, .unset, .unset, .unset, .unset, .unset]) rfl ?_
      show own_S p e below T111 m 100 #[iv i1, iv i2, iv i3, iv i4, iv i5, iv ca, iv cb, iv cc, iv cd, iv (4 : Int32), iv (0 : Int32), rv b7, .unset, .unset, .unset, .unset, .unset] [] _
      refine XS.iload X111.here hx rfl (hb hby at_100) rfl ?_
      refine XS.ifYes X111.here hx rfl (pc0 := 102) (pc' := 116) rfl (hb hby at_102) rfl ((if0 _ _).trans (teq (by decide : (0 : Int32) = (0 : Int32))).1) (by decide) (by decide) ?_
      refine XS.iload X111.here hx rfl (hb hby at_116) rfl ?_
      show own_S p e below T111 m 118 #[iv i1, iv i2, iv i3, iv i4, iv i5, iv ca, iv cb, iv cc, iv cd, iv (4 : Int32), iv (0 : Int32), rv b7, .unset, .unset, .unset, .unset, .unset] [(.int ca)] _
      refine XS.istore X111.here hx rfl (hb hby at_118) rfl (l' := #[iv i1, iv i2, iv i3, iv i4, iv i5, iv ca, iv cb, iv cc, iv cd, iv (4 : Int32), iv (0 : Int32), rv b7, iv ca, .unset, .unset, .unset, .unset]) rfl ?_
      refine XS.iload X111.here hx rfl (hb hby at_120) rfl ?_
      refine XS.istore X111.here hx rfl (hb hby at_122) rfl (l' := #[iv i1, iv i2, iv i3, iv i4, iv i5, iv ca, iv cb, iv cc, iv cd, iv (4 : Int32), iv (0 : Int32), rv b7, iv ca, iv cb, .unset, .unset, .unset]) rfl ?_
      show own_S p e below T111 m 124 #[iv i1, iv i2, iv i3, iv i4, iv i5, iv ca, iv cb, iv cc, iv cd, iv (4 : Int32), iv (0 : Int32), rv b7, iv ca, iv cb, .unset, .unset, .unset] [] _
      refine XS.iload X111.here hx rfl (hb hby at_124) rfl ?_
      refine XS.istore X111.here hx rfl (hb hby at_126) rfl (l' := #[iv i1, iv i2, iv i3, iv i4, iv i5, iv ca, iv cb, iv cc, iv cd, iv (4 : Int32), iv (0 : Int32), rv b7, iv ca, iv cb, iv cc, .unset, .unset]) rfl ?_
      refine XS.iload X111.here hx rfl (hb hby at_128) rfl ?_
      show own_S p e below T111 m 130 #[iv i1, iv i2, iv i3, iv i4, iv i5, iv ca, iv cb, iv cc, iv cd, iv (4 : Int32), iv (0 : Int32), rv b7, iv ca, iv cb, iv cc, .unset, .unset] [(.int cd)] _
      refine XS.istore X111.here hx rfl (hb hby at_130) rfl (l' := #[iv i1, iv i2, iv i3, iv i4, iv i5, iv ca, iv cb, iv cc, iv cd, iv (4 : Int32), iv (0 : Int32), rv b7, iv ca, iv cb, iv cc, iv cd, .unset]) rfl ?_
      refine XS.iload X111.here hx rfl (hb hby at_132) rfl ?_
      refine XS.iload X111.here hx rfl (hb hby at_134) rfl ?_
      show own_S p e below T111 m 136 #[iv i1, iv i2, iv i3, iv i4, iv i5, iv ca, iv cb, iv cc, iv cd, iv (4 : Int32), iv (0 : Int32), rv b7, iv ca, iv cb, iv cc, iv cd, .unset] [(.int ca), (.int ca)] _
      refine XS.iload X111.here hx rfl (hb hby at_136) rfl ?_
      refine XS.iload X111.here hx rfl (hb hby at_138) rfl ?_
      refine XS.iload X111.here hx rfl (hb hby at_140) rfl ?_
      show own_S p e below T111 m 142 #[iv i1, iv i2, iv i3, iv i4, iv i5, iv ca, iv cb, iv cc, iv cd, iv (4 : Int32), iv (0 : Int32), rv b7, iv ca, iv cb, iv cc, iv cd, .unset] [(.int cd), (.int cc), (.int cb), (.int ca), (.int ca)] _
      refine XS.iload X111.here hx rfl (hb hby at_142) rfl ?_
      refine XS.iload X111.here hx rfl (hb hby at_144) rfl ?_
      refine st113 _ ?_
      show own_S p e below T113 m 149 #[iv i1, iv i2, iv i3, iv i4, iv i5, iv ca, iv cb, iv cc, iv cd, iv (4 : Int32), iv (0 : Int32), rv b7, iv ca, iv cb, iv cc, iv cd, .unset] [(.int (own_st ca ca cb cc cd (4 : Int32) (0 : Int32)))] _
      refine XS.istore X113.here hx rfl (hb hby at_149) rfl (l' := #[iv i1, iv i2, iv i3, iv i4, iv i5, iv ca, iv cb, iv cc, iv cd, iv (4 : Int32), iv (0 : Int32), rv b7, iv ca, iv cb, iv cc, iv cd, iv (own_st ca ca cb cc cd (4 : Int32) (0 : Int32))]) rfl ?_
      exact k)
    obtain ⟨e1, he1⟩ : ∃ z, z = own_st ca ca cb cc cd (4 : Int32) (0 : Int32) := ⟨_, rfl⟩
    rw [← he1] at pre115
    obtain ⟨Tj116, Lj116, Xj116, ej116, Nj116, e2, h_e2, prej116⟩ : ∃ (Tj : State) (Lj : List Loc), Stand p l e room_1 s m #[(.int i1), (.int i2), (.int i3), (.int i4), (.int i5)] below meth c Tj Lj 2 6 ∧ Tj.heap = T111.heap ∧ Fr n0 Lj ∧ ∃ e2 : Int32, (((cb = ca) ∧ e2 = e1) ∨ (¬ (cb = ca) ∧ e2 = e1 + own_st cb ca cb cc cd (4 : Int32) (0 : Int32))) ∧ ∀ tg, own_S p e below Tj m 186 #[iv i1, iv i2, iv i3, iv i4, iv i5, iv ca, iv cb, iv cc, iv cd, iv (4 : Int32), iv (0 : Int32), rv b7, iv ca, iv cb, iv cc, iv cd, iv e2] [] tg → Steps p.tables e below (s₁.setTop (entryFrame m #[(.int i1), (.int i2), (.int i3), (.int i4), (.int i5)] maxLocals)) tg := by
      have pre118 : ∀ tg, own_S p e below T113 m 161 #[iv i1, iv i2, iv i3, iv i4, iv i5, iv ca, iv cb, iv cc, iv cd, iv (4 : Int32), iv (0 : Int32), rv b7, iv ca, iv cb, iv cc, iv cd, iv e1] [(.int ca), (.int cb)] tg → Steps p.tables e below (s₁.setTop (entryFrame m #[(.int i1), (.int i2), (.int i3), (.int i4), (.int i5)] maxLocals)) tg := fun tg k => pre115 tg (by
        show own_S p e below T113 m 151 #[iv i1, iv i2, iv i3, iv i4, iv i5, iv ca, iv cb, iv cc, iv cd, iv (4 : Int32), iv (0 : Int32), rv b7, iv ca, iv cb, iv cc, iv cd, iv e1] [] _
        refine XS.iload X113.here hx rfl (hb hby at_151) rfl ?_
        refine XS.iconst X113.here hx rfl (hb hby at_153) ?_
        refine XS.icmpNo X113.here hx rfl (hb hby at_154) rfl (tlt (by decide : (1 : Int32) < (4 : Int32))).2.2.2 ?_
        show own_S p e below T113 m 157 #[iv i1, iv i2, iv i3, iv i4, iv i5, iv ca, iv cb, iv cc, iv cd, iv (4 : Int32), iv (0 : Int32), rv b7, iv ca, iv cb, iv cc, iv cd, iv e1] [] _
        refine XS.iload X113.here hx rfl (hb hby at_157) rfl ?_
        refine XS.iload X113.here hx rfl (hb hby at_159) rfl ?_
        exact k)
      by_cases hc161_117 : cb = ca
      ·  -- pc 161 yes
        have pre119 : ∀ tg, own_S p e below T113 m 186 #[iv i1, iv i2, iv i3, iv i4, iv i5, iv ca, iv cb, iv cc, iv cd, iv (4 : Int32), iv (0 : Int32), rv b7, iv ca, iv cb, iv cc, iv cd, iv e1] [] tg → Steps p.tables e below (s₁.setTop (entryFrame m #[(.int i1), (.int i2), (.int i3), (.int i4), (.int i5)] maxLocals)) tg := fun tg k => pre118 tg (by
          show own_S p e below T113 m 161 #[iv i1, iv i2, iv i3, iv i4, iv i5, iv ca, iv cb, iv cc, iv cd, iv (4 : Int32), iv (0 : Int32), rv b7, iv ca, iv cb, iv cc, iv cd, iv e1] [(.int ca), (.int cb)] _
          refine XS.icmpYes X113.here hx rfl (pc0 := 161) (pc' := 186) rfl (hb hby at_161) rfl (teq hc161_117).1 (by decide) (by decide) ?_
          exact k)
        exact ⟨T113, _, X113, e113, N113, e1, (by first | exact Or.inl ⟨by simp [hc161_117], rfl⟩ | exact Or.inr ⟨by simp [hc161_117], rfl⟩), pre119⟩
      ·  -- pc 161 no
        obtain ⟨_, _, ⟨T120, L120, k120, n120⟩, -, X120, ⟨Lc120, hQ120, l120, y120, z120⟩, st120⟩ := Jvm.LawKit.callS X113 hx (y := (⟨"com/example/bitstrata/bitstrata/ArrayContainerRunCountPinLaw", "starts", "(IIIIIIZ)I"⟩ : MethodName)) hown (mvT hZ (hw _ (List.mem_of_getElem? (i := 14) rfl))) (mvT hZ (hw _ (List.mem_of_getElem? (i := 15) rfl))) (mvT hZ (hw _ (List.mem_of_getElem? (i := 16) rfl))) (mvT hZ (hw _ (List.mem_of_getElem? (i := 17) rfl))) (by decide) (backOf (W := 1) (rmSt l Z a0 hw [] cb ca cb cc cd (4 : Int32) (0 : Int32) T111.heap n0 Zs114 ) hZ (hw _ (List.mem_of_getElem? (i := 17) rfl)) (hw _ (List.mem_of_getElem? (i := 16) rfl)) (by decide) (by decide)) (g := (mkF m 180 #[iv i1, iv i2, iv i3, iv i4, iv i5, iv ca, iv cb, iv cc, iv cd, iv (4 : Int32), iv (0 : Int32), rv b7, iv ca, iv cb, iv cc, iv cd, iv e1] [(.int (0 : Int32)), (.int (4 : Int32)), (.int cd), (.int cc), (.int cb), (.int ca), (.int cb), (.int e1)])) rfl (by rw [hml]; rfl) (argsL := [(.int cb), (.int ca), (.int cb), (.int cc), (.int cd), (.int (4 : Int32)), (.int (0 : Int32))]) (rest := [(.int e1)]) (lenOf pd_4 rfl) rfl (by show 2 * 0 + _ ≤ _; exact Nat.le_of_eq rfl) (hb hby at_180) (fun _ _ => ⟨rfl, e113, (by decide : 2 + 0 ≤ _), (by decide : 6 + 0 ≤ _)⟩)
        dsimp only [Pt.U, Pt.locs, Pt.cells, Pt.slots] at X120 l120 y120 z120 st120 hQ120
        subst l120 y120 z120
        obtain ⟨rfl, N120q, e120q⟩ := hQ120
        have N120 := Fr.app N113 N120q
        have e120 : T120.heap = T111.heap := e120q
        have pre121 : ∀ tg, own_S p e below T120 m 186 #[iv i1, iv i2, iv i3, iv i4, iv i5, iv ca, iv cb, iv cc, iv cd, iv (4 : Int32), iv (0 : Int32), rv b7, iv ca, iv cb, iv cc, iv cd, iv (e1 + (own_st cb ca cb cc cd (4 : Int32) (0 : Int32)))] [] tg → Steps p.tables e below (s₁.setTop (entryFrame m #[(.int i1), (.int i2), (.int i3), (.int i4), (.int i5)] maxLocals)) tg := fun tg k => pre118 tg (by
          show own_S p e below T113 m 161 #[iv i1, iv i2, iv i3, iv i4, iv i5, iv ca, iv cb, iv cc, iv cd, iv (4 : Int32), iv (0 : Int32), rv b7, iv ca, iv cb, iv cc, iv cd, iv e1] [(.int ca), (.int cb)] _
          refine XS.icmpNo X113.here hx rfl (hb hby at_161) rfl (feq hc161_117).1 ?_
          refine XS.iload X113.here hx rfl (hb hby at_164) rfl ?_
          refine XS.iload X113.here hx rfl (hb hby at_166) rfl ?_
          show own_S p e below T113 m 168 #[iv i1, iv i2, iv i3, iv i4, iv i5, iv ca, iv cb, iv cc, iv cd, iv (4 : Int32), iv (0 : Int32), rv b7, iv ca, iv cb, iv cc, iv cd, iv e1] [(.int cb), (.int e1)] _
          refine XS.iload X113.here hx rfl (hb hby at_168) rfl ?_
          refine XS.iload X113.here hx rfl (hb hby at_170) rfl ?_
          refine XS.iload X113.here hx rfl (hb hby at_172) rfl ?_
          show own_S p e below T113 m 174 #[iv i1, iv i2, iv i3, iv i4, iv i5, iv ca, iv cb, iv cc, iv cd, iv (4 : Int32), iv (0 : Int32), rv b7, iv ca, iv cb, iv cc, iv cd, iv e1] [(.int cc), (.int cb), (.int ca), (.int cb), (.int e1)] _
          refine XS.iload X113.here hx rfl (hb hby at_174) rfl ?_
          refine XS.iload X113.here hx rfl (hb hby at_176) rfl ?_
          refine XS.iload X113.here hx rfl (hb hby at_178) rfl ?_
          show own_S p e below T113 m 180 #[iv i1, iv i2, iv i3, iv i4, iv i5, iv ca, iv cb, iv cc, iv cd, iv (4 : Int32), iv (0 : Int32), rv b7, iv ca, iv cb, iv cc, iv cd, iv e1] [(.int (0 : Int32)), (.int (4 : Int32)), (.int cd), (.int cc), (.int cb), (.int ca), (.int cb), (.int e1)] _
          refine st120 _ ?_
          refine XS.iadd X120.here hx rfl (hb hby at_183) rfl ?_
          refine XS.istore X120.here hx rfl (hb hby at_184) rfl (l' := #[iv i1, iv i2, iv i3, iv i4, iv i5, iv ca, iv cb, iv cc, iv cd, iv (4 : Int32), iv (0 : Int32), rv b7, iv ca, iv cb, iv cc, iv cd, iv (e1 + (own_st cb ca cb cc cd (4 : Int32) (0 : Int32)))]) rfl ?_
          exact k)
        exact ⟨T120, _, X120, e120, N120, (e1 + (own_st cb ca cb cc cd (4 : Int32) (0 : Int32))), (by first | exact Or.inl ⟨by simp [hc161_117], rfl⟩ | exact Or.inr ⟨by simp [hc161_117], rfl⟩), pre121⟩
    obtain ⟨Tj122, Lj122, Xj122, ej122, Nj122, e3, h_e3, prej122⟩ : ∃ (Tj : State) (Lj : List Loc), Stand p l e room_1 s m #[(.int i1), (.int i2), (.int i3), (.int i4), (.int i5)] below meth c Tj Lj 2 6 ∧ Tj.heap = T111.heap ∧ Fr n0 Lj ∧ ∃ e3 : Int32, (((cc = ca ∨ cc = cb) ∧ e3 = e2) ∨ (¬ (cc = ca ∨ cc = cb) ∧ e3 = e2 + own_st cc ca cb cc cd (4 : Int32) (0 : Int32))) ∧ ∀ tg, own_S p e below Tj m 228 #[iv i1, iv i2, iv i3, iv i4, iv i5, iv ca, iv cb, iv cc, iv cd, iv (4 : Int32), iv (0 : Int32), rv b7, iv ca, iv cb, iv cc, iv cd, iv e3] [] tg → Steps p.tables e below (s₁.setTop (entryFrame m #[(.int i1), (.int i2), (.int i3), (.int i4), (.int i5)] maxLocals)) tg := by
      have pre124 : ∀ tg, own_S p e below Tj116 m 196 #[iv i1, iv i2, iv i3, iv i4, iv i5, iv ca, iv cb, iv cc, iv cd, iv (4 : Int32), iv (0 : Int32), rv b7, iv ca, iv cb, iv cc, iv cd, iv e2] [(.int ca), (.int cc)] tg → Steps p.tables e below (s₁.setTop (entryFrame m #[(.int i1), (.int i2), (.int i3), (.int i4), (.int i5)] maxLocals)) tg := fun tg k => prej116 tg (by
        show own_S p e below Tj116 m 186 #[iv i1, iv i2, iv i3, iv i4, iv i5, iv ca, iv cb, iv cc, iv cd, iv (4 : Int32), iv (0 : Int32), rv b7, iv ca, iv cb, iv cc, iv cd, iv e2] [] _
        refine XS.iload Xj116.here hx rfl (hb hby at_186) rfl ?_
        refine XS.iconst Xj116.here hx rfl (hb hby at_188) ?_
        refine XS.icmpNo Xj116.here hx rfl (hb hby at_189) rfl (tlt (by decide : (2 : Int32) < (4 : Int32))).2.2.2 ?_
        show own_S p e below Tj116 m 192 #[iv i1, iv i2, iv i3, iv i4, iv i5, iv ca, iv cb, iv cc, iv cd, iv (4 : Int32), iv (0 : Int32), rv b7, iv ca, iv cb, iv cc, iv cd, iv e2] [] _
        refine XS.iload Xj116.here hx rfl (hb hby at_192) rfl ?_
        refine XS.iload Xj116.here hx rfl (hb hby at_194) rfl ?_
        exact k)
      by_cases hc196_123 : cc = ca
      ·  -- pc 196 yes
        have pre125 : ∀ tg, own_S p e below Tj116 m 228 #[iv i1, iv i2, iv i3, iv i4, iv i5, iv ca, iv cb, iv cc, iv cd, iv (4 : Int32), iv (0 : Int32), rv b7, iv ca, iv cb, iv cc, iv cd, iv e2] [] tg → Steps p.tables e below (s₁.setTop (entryFrame m #[(.int i1), (.int i2), (.int i3), (.int i4), (.int i5)] maxLocals)) tg := fun tg k => pre124 tg (by
          show own_S p e below Tj116 m 196 #[iv i1, iv i2, iv i3, iv i4, iv i5, iv ca, iv cb, iv cc, iv cd, iv (4 : Int32), iv (0 : Int32), rv b7, iv ca, iv cb, iv cc, iv cd, iv e2] [(.int ca), (.int cc)] _
          refine XS.icmpYes Xj116.here hx rfl (pc0 := 196) (pc' := 228) rfl (hb hby at_196) rfl (teq hc196_123).1 (by decide) (by decide) ?_
          exact k)
        exact ⟨Tj116, _, Xj116, ej116, Nj116, e2, (by first | exact Or.inl ⟨by simp [hc196_123], rfl⟩ | exact Or.inr ⟨by simp [hc196_123], rfl⟩), pre125⟩
      ·  -- pc 196 no
        have pre127 : ∀ tg, own_S p e below Tj116 m 203 #[iv i1, iv i2, iv i3, iv i4, iv i5, iv ca, iv cb, iv cc, iv cd, iv (4 : Int32), iv (0 : Int32), rv b7, iv ca, iv cb, iv cc, iv cd, iv e2] [(.int cb), (.int cc)] tg → Steps p.tables e below (s₁.setTop (entryFrame m #[(.int i1), (.int i2), (.int i3), (.int i4), (.int i5)] maxLocals)) tg := fun tg k => pre124 tg (by
          show own_S p e below Tj116 m 196 #[iv i1, iv i2, iv i3, iv i4, iv i5, iv ca, iv cb, iv cc, iv cd, iv (4 : Int32), iv (0 : Int32), rv b7, iv ca, iv cb, iv cc, iv cd, iv e2] [(.int ca), (.int cc)] _
          refine XS.icmpNo Xj116.here hx rfl (hb hby at_196) rfl (feq hc196_123).1 ?_
          refine XS.iload Xj116.here hx rfl (hb hby at_199) rfl ?_
          refine XS.iload Xj116.here hx rfl (hb hby at_201) rfl ?_
          exact k)
        by_cases hc203_126 : cc = cb
        ·  -- pc 203 yes
          have pre128 : ∀ tg, own_S p e below Tj116 m 228 #[iv i1, iv i2, iv i3, iv i4, iv i5, iv ca, iv cb, iv cc, iv cd, iv (4 : Int32), iv (0 : Int32), rv b7, iv ca, iv cb, iv cc, iv cd, iv e2] [] tg → Steps p.tables e below (s₁.setTop (entryFrame m #[(.int i1), (.int i2), (.int i3), (.int i4), (.int i5)] maxLocals)) tg := fun tg k => pre127 tg (by
            show own_S p e below Tj116 m 203 #[iv i1, iv i2, iv i3, iv i4, iv i5, iv ca, iv cb, iv cc, iv cd, iv (4 : Int32), iv (0 : Int32), rv b7, iv ca, iv cb, iv cc, iv cd, iv e2] [(.int cb), (.int cc)] _
            refine XS.icmpYes Xj116.here hx rfl (pc0 := 203) (pc' := 228) rfl (hb hby at_203) rfl (teq hc203_126).1 (by decide) (by decide) ?_
            exact k)
          exact ⟨Tj116, _, Xj116, ej116, Nj116, e2, (by first | exact Or.inl ⟨by simp [hc196_123, hc203_126], rfl⟩ | exact Or.inr ⟨by simp [hc196_123, hc203_126], rfl⟩), pre128⟩
        ·  -- pc 203 no
          obtain ⟨_, _, ⟨T129, L129, k129, n129⟩, -, X129, ⟨Lc129, hQ129, l129, y129, z129⟩, st129⟩ := Jvm.LawKit.callS Xj116 hx (y := (⟨"com/example/bitstrata/bitstrata/ArrayContainerRunCountPinLaw", "starts", "(IIIIIIZ)I"⟩ : MethodName)) hown (mvT hZ (hw _ (List.mem_of_getElem? (i := 14) rfl))) (mvT hZ (hw _ (List.mem_of_getElem? (i := 15) rfl))) (mvT hZ (hw _ (List.mem_of_getElem? (i := 16) rfl))) (mvT hZ (hw _ (List.mem_of_getElem? (i := 17) rfl))) (by decide) (backOf (W := 1) (rmSt l Z a0 hw [] cc ca cb cc cd (4 : Int32) (0 : Int32) T111.heap n0 Zs114 ) hZ (hw _ (List.mem_of_getElem? (i := 17) rfl)) (hw _ (List.mem_of_getElem? (i := 16) rfl)) (by decide) (by decide)) (g := (mkF m 222 #[iv i1, iv i2, iv i3, iv i4, iv i5, iv ca, iv cb, iv cc, iv cd, iv (4 : Int32), iv (0 : Int32), rv b7, iv ca, iv cb, iv cc, iv cd, iv e2] [(.int (0 : Int32)), (.int (4 : Int32)), (.int cd), (.int cc), (.int cb), (.int ca), (.int cc), (.int e2)])) rfl (by rw [hml]; rfl) (argsL := [(.int cc), (.int ca), (.int cb), (.int cc), (.int cd), (.int (4 : Int32)), (.int (0 : Int32))]) (rest := [(.int e2)]) (lenOf pd_4 rfl) rfl (by show 2 * 0 + _ ≤ _; exact Nat.le_of_eq rfl) (hb hby at_222) (fun _ _ => ⟨rfl, ej116, (by decide : 2 + 0 ≤ _), (by decide : 6 + 0 ≤ _)⟩)
          dsimp only [Pt.U, Pt.locs, Pt.cells, Pt.slots] at X129 l129 y129 z129 st129 hQ129
          subst l129 y129 z129
          obtain ⟨rfl, N129q, e129q⟩ := hQ129
          have N129 := Fr.app Nj116 N129q
          have e129 : T129.heap = T111.heap := e129q
          have pre130 : ∀ tg, own_S p e below T129 m 228 #[iv i1, iv i2, iv i3, iv i4, iv i5, iv ca, iv cb, iv cc, iv cd, iv (4 : Int32), iv (0 : Int32), rv b7, iv ca, iv cb, iv cc, iv cd, iv (e2 + (own_st cc ca cb cc cd (4 : Int32) (0 : Int32)))] [] tg → Steps p.tables e below (s₁.setTop (entryFrame m #[(.int i1), (.int i2), (.int i3), (.int i4), (.int i5)] maxLocals)) tg := fun tg k => pre127 tg (by
            show own_S p e below Tj116 m 203 #[iv i1, iv i2, iv i3, iv i4, iv i5, iv ca, iv cb, iv cc, iv cd, iv (4 : Int32), iv (0 : Int32), rv b7, iv ca, iv cb, iv cc, iv cd, iv e2] [(.int cb), (.int cc)] _
            refine XS.icmpNo Xj116.here hx rfl (hb hby at_203) rfl (feq hc203_126).1 ?_
            refine XS.iload Xj116.here hx rfl (hb hby at_206) rfl ?_
            refine XS.iload Xj116.here hx rfl (hb hby at_208) rfl ?_
            show own_S p e below Tj116 m 210 #[iv i1, iv i2, iv i3, iv i4, iv i5, iv ca, iv cb, iv cc, iv cd, iv (4 : Int32), iv (0 : Int32), rv b7, iv ca, iv cb, iv cc, iv cd, iv e2] [(.int cc), (.int e2)] _
            refine XS.iload Xj116.here hx rfl (hb hby at_210) rfl ?_
            refine XS.iload Xj116.here hx rfl (hb hby at_212) rfl ?_
            refine XS.iload Xj116.here hx rfl (hb hby at_214) rfl ?_
            show own_S p e below Tj116 m 216 #[iv i1, iv i2, iv i3, iv i4, iv i5, iv ca, iv cb, iv cc, iv cd, iv (4 : Int32), iv (0 : Int32), rv b7, iv ca, iv cb, iv cc, iv cd, iv e2] [(.int cc), (.int cb), (.int ca), (.int cc), (.int e2)] _
            refine XS.iload Xj116.here hx rfl (hb hby at_216) rfl ?_
            refine XS.iload Xj116.here hx rfl (hb hby at_218) rfl ?_
            refine XS.iload Xj116.here hx rfl (hb hby at_220) rfl ?_
            show own_S p e below Tj116 m 222 #[iv i1, iv i2, iv i3, iv i4, iv i5, iv ca, iv cb, iv cc, iv cd, iv (4 : Int32), iv (0 : Int32), rv b7, iv ca, iv cb, iv cc, iv cd, iv e2] [(.int (0 : Int32)), (.int (4 : Int32)), (.int cd), (.int cc), (.int cb), (.int ca), (.int cc), (.int e2)] _
            refine st129 _ ?_
            refine XS.iadd X129.here hx rfl (hb hby at_225) rfl ?_
            refine XS.istore X129.here hx rfl (hb hby at_226) rfl (l' := #[iv i1, iv i2, iv i3, iv i4, iv i5, iv ca, iv cb, iv cc, iv cd, iv (4 : Int32), iv (0 : Int32), rv b7, iv ca, iv cb, iv cc, iv cd, iv (e2 + (own_st cc ca cb cc cd (4 : Int32) (0 : Int32)))]) rfl ?_
            exact k)
          exact ⟨T129, _, X129, e129, N129, (e2 + (own_st cc ca cb cc cd (4 : Int32) (0 : Int32))), (by first | exact Or.inl ⟨by simp [hc196_123, hc203_126], rfl⟩ | exact Or.inr ⟨by simp [hc196_123, hc203_126], rfl⟩), pre130⟩
    obtain ⟨Tj131, Lj131, Xj131, ej131, Nj131, e4, h_e4, prej131⟩ : ∃ (Tj : State) (Lj : List Loc), Stand p l e room_1 s m #[(.int i1), (.int i2), (.int i3), (.int i4), (.int i5)] below meth c Tj Lj 2 6 ∧ Tj.heap = T111.heap ∧ Fr n0 Lj ∧ ∃ e4 : Int32, (((cd = ca ∨ cd = cb ∨ cd = cc) ∧ e4 = e3) ∨ (¬ (cd = ca ∨ cd = cb ∨ cd = cc) ∧ e4 = e3 + own_st cd ca cb cc cd (4 : Int32) (0 : Int32))) ∧ ∀ tg, own_S p e below Tj m 277 #[iv i1, iv i2, iv i3, iv i4, iv i5, iv ca, iv cb, iv cc, iv cd, iv (4 : Int32), iv (0 : Int32), rv b7, iv ca, iv cb, iv cc, iv cd, iv e4] [] tg → Steps p.tables e below (s₁.setTop (entryFrame m #[(.int i1), (.int i2), (.int i3), (.int i4), (.int i5)] maxLocals)) tg := by
      have pre133 : ∀ tg, own_S p e below Tj122 m 238 #[iv i1, iv i2, iv i3, iv i4, iv i5, iv ca, iv cb, iv cc, iv cd, iv (4 : Int32), iv (0 : Int32), rv b7, iv ca, iv cb, iv cc, iv cd, iv e3] [(.int ca), (.int cd)] tg → Steps p.tables e below (s₁.setTop (entryFrame m #[(.int i1), (.int i2), (.int i3), (.int i4), (.int i5)] maxLocals)) tg := fun tg k => prej122 tg (by
        show own_S p e below Tj122 m 228 #[iv i1, iv i2, iv i3, iv i4, iv i5, iv ca, iv cb, iv cc, iv cd, iv (4 : Int32), iv (0 : Int32), rv b7, iv ca, iv cb, iv cc, iv cd, iv e3] [] _
        refine XS.iload Xj122.here hx rfl (hb hby at_228) rfl ?_
        refine XS.iconst Xj122.here hx rfl (hb hby at_230) ?_
        refine XS.icmpNo Xj122.here hx rfl (hb hby at_231) rfl (tlt (by decide : (3 : Int32) < (4 : Int32))).2.2.2 ?_
        show own_S p e below Tj122 m 234 #[iv i1, iv i2, iv i3, iv i4, iv i5, iv ca, iv cb, iv cc, iv cd, iv (4 : Int32), iv (0 : Int32), rv b7, iv ca, iv cb, iv cc, iv cd, iv e3] [] _
        refine XS.iload Xj122.here hx rfl (hb hby at_234) rfl ?_
        refine XS.iload Xj122.here hx rfl (hb hby at_236) rfl ?_
        exact k)
      by_cases hc238_132 : cd = ca
      ·  -- pc 238 yes
        have pre134 : ∀ tg, own_S p e below Tj122 m 277 #[iv i1, iv i2, iv i3, iv i4, iv i5, iv ca, iv cb, iv cc, iv cd, iv (4 : Int32), iv (0 : Int32), rv b7, iv ca, iv cb, iv cc, iv cd, iv e3] [] tg → Steps p.tables e below (s₁.setTop (entryFrame m #[(.int i1), (.int i2), (.int i3), (.int i4), (.int i5)] maxLocals)) tg := fun tg k => pre133 tg (by
          show own_S p e below Tj122 m 238 #[iv i1, iv i2, iv i3, iv i4, iv i5, iv ca, iv cb, iv cc, iv cd, iv (4 : Int32), iv (0 : Int32), rv b7, iv ca, iv cb, iv cc, iv cd, iv e3] [(.int ca), (.int cd)] _
          refine XS.icmpYes Xj122.here hx rfl (pc0 := 238) (pc' := 277) rfl (hb hby at_238) rfl (teq hc238_132).1 (by decide) (by decide) ?_
          exact k)
        exact ⟨Tj122, _, Xj122, ej122, Nj122, e3, (by first | exact Or.inl ⟨by simp [hc238_132], rfl⟩ | exact Or.inr ⟨by simp [hc238_132], rfl⟩), pre134⟩
      ·  -- pc 238 no
        have pre136 : ∀ tg, own_S p e below Tj122 m 245 #[iv i1, iv i2, iv i3, iv i4, iv i5, iv ca, iv cb, iv cc, iv cd, iv (4 : Int32), iv (0 : Int32), rv b7, iv ca, iv cb, iv cc, iv cd, iv e3] [(.int cb), (.int cd)] tg → Steps p.tables e below (s₁.setTop (entryFrame m #[(.int i1), (.int i2), (.int i3), (.int i4), (.int i5)] maxLocals)) tg := fun tg k => pre133 tg (by
          show own_S p e below Tj122 m 238 #[iv i1, iv i2, iv i3, iv i4, iv i5, iv ca, iv cb, iv cc, iv cd, iv (4 : Int32), iv (0 : Int32), rv b7, iv ca, iv cb, iv cc, iv cd, iv e3] [(.int ca), (.int cd)] _
          refine XS.icmpNo Xj122.here hx rfl (hb hby at_238) rfl (feq hc238_132).1 ?_
          refine XS.iload Xj122.here hx rfl (hb hby at_241) rfl ?_
          refine XS.iload Xj122.here hx rfl (hb hby at_243) rfl ?_
          exact k)
        by_cases hc245_135 : cd = cb
        ·  -- pc 245 yes
          have pre137 : ∀ tg, own_S p e below Tj122 m 277 #[iv i1, iv i2, iv i3, iv i4, iv i5, iv ca, iv cb, iv cc, iv cd, iv (4 : Int32), iv (0 : Int32), rv b7, iv ca, iv cb, iv cc, iv cd, iv e3] [] tg → Steps p.tables e below (s₁.setTop (entryFrame m #[(.int i1), (.int i2), (.int i3), (.int i4), (.int i5)] maxLocals)) tg := fun tg k => pre136 tg (by
            show own_S p e below Tj122 m 245 #[iv i1, iv i2, iv i3, iv i4, iv i5, iv ca, iv cb, iv cc, iv cd, iv (4 : Int32), iv (0 : Int32), rv b7, iv ca, iv cb, iv cc, iv cd, iv e3] [(.int cb), (.int cd)] _
            refine XS.icmpYes Xj122.here hx rfl (pc0 := 245) (pc' := 277) rfl (hb hby at_245) rfl (teq hc245_135).1 (by decide) (by decide) ?_
            exact k)
          exact ⟨Tj122, _, Xj122, ej122, Nj122, e3, (by first | exact Or.inl ⟨by simp [hc238_132, hc245_135], rfl⟩ | exact Or.inr ⟨by simp [hc238_132, hc245_135], rfl⟩), pre137⟩
        ·  -- pc 245 no
          have pre139 : ∀ tg, own_S p e below Tj122 m 252 #[iv i1, iv i2, iv i3, iv i4, iv i5, iv ca, iv cb, iv cc, iv cd, iv (4 : Int32), iv (0 : Int32), rv b7, iv ca, iv cb, iv cc, iv cd, iv e3] [(.int cc), (.int cd)] tg → Steps p.tables e below (s₁.setTop (entryFrame m #[(.int i1), (.int i2), (.int i3), (.int i4), (.int i5)] maxLocals)) tg := fun tg k => pre136 tg (by
            show own_S p e below Tj122 m 245 #[iv i1, iv i2, iv i3, iv i4, iv i5, iv ca, iv cb, iv cc, iv cd, iv (4 : Int32), iv (0 : Int32), rv b7, iv ca, iv cb, iv cc, iv cd, iv e3] [(.int cb), (.int cd)] _
            refine XS.icmpNo Xj122.here hx rfl (hb hby at_245) rfl (feq hc245_135).1 ?_
            refine XS.iload Xj122.here hx rfl (hb hby at_248) rfl ?_
            refine XS.iload Xj122.here hx rfl (hb hby at_250) rfl ?_
            exact k)
          by_cases hc252_138 : cd = cc
          ·  -- pc 252 yes
            have pre140 : ∀ tg, own_S p e below Tj122 m 277 #[iv i1, iv i2, iv i3, iv i4, iv i5, iv ca, iv cb, iv cc, iv cd, iv (4 : Int32), iv (0 : Int32), rv b7, iv ca, iv cb, iv cc, iv cd, iv e3] [] tg → Steps p.tables e below (s₁.setTop (entryFrame m #[(.int i1), (.int i2), (.int i3), (.int i4), (.int i5)] maxLocals)) tg := fun tg k => pre139 tg (by
              show own_S p e below Tj122 m 252 #[iv i1, iv i2, iv i3, iv i4, iv i5, iv ca, iv cb, iv cc, iv cd, iv (4 : Int32), iv (0 : Int32), rv b7, iv ca, iv cb, iv cc, iv cd, iv e3] [(.int cc), (.int cd)] _
              refine XS.icmpYes Xj122.here hx rfl (pc0 := 252) (pc' := 277) rfl (hb hby at_252) rfl (teq hc252_138).1 (by decide) (by decide) ?_
              exact k)
            exact ⟨Tj122, _, Xj122, ej122, Nj122, e3, (by first | exact Or.inl ⟨by simp [hc238_132, hc245_135, hc252_138], rfl⟩ | exact Or.inr ⟨by simp [hc238_132, hc245_135, hc252_138], rfl⟩), pre140⟩
          ·  -- pc 252 no
            obtain ⟨_, _, ⟨T141, L141, k141, n141⟩, -, X141, ⟨Lc141, hQ141, l141, y141, z141⟩, st141⟩ := Jvm.LawKit.callS Xj122 hx (y := (⟨"com/example/bitstrata/bitstrata/ArrayContainerRunCountPinLaw", "starts", "(IIIIIIZ)I"⟩ : MethodName)) hown (mvT hZ (hw _ (List.mem_of_getElem? (i := 14) rfl))) (mvT hZ (hw _ (List.mem_of_getElem? (i := 15) rfl))) (mvT hZ (hw _ (List.mem_of_getElem? (i := 16) rfl))) (mvT hZ (hw _ (List.mem_of_getElem? (i := 17) rfl))) (by decide) (backOf (W := 1) (rmSt l Z a0 hw [] cd ca cb cc cd (4 : Int32) (0 : Int32) T111.heap n0 Zs114 ) hZ (hw _ (List.mem_of_getElem? (i := 17) rfl)) (hw _ (List.mem_of_getElem? (i := 16) rfl)) (by decide) (by decide)) (g := (mkF m 271 #[iv i1, iv i2, iv i3, iv i4, iv i5, iv ca, iv cb, iv cc, iv cd, iv (4 : Int32), iv (0 : Int32), rv b7, iv ca, iv cb, iv cc, iv cd, iv e3] [(.int (0 : Int32)), (.int (4 : Int32)), (.int cd), (.int cc), (.int cb), (.int ca), (.int cd), (.int e3)])) rfl (by rw [hml]; rfl) (argsL := [(.int cd), (.int ca), (.int cb), (.int cc), (.int cd), (.int (4 : Int32)), (.int (0 : Int32))]) (rest := [(.int e3)]) (lenOf pd_4 rfl) rfl (by show 2 * 0 + _ ≤ _; exact Nat.le_of_eq rfl) (hb hby at_271) (fun _ _ => ⟨rfl, ej122, (by decide : 2 + 0 ≤ _), (by decide : 6 + 0 ≤ _)⟩)
            dsimp only [Pt.U, Pt.locs, Pt.cells, Pt.slots] at X141 l141 y141 z141 st141 hQ141
            subst l141 y141 z141
            obtain ⟨rfl, N141q, e141q⟩ := hQ141
            have N141 := Fr.app Nj122 N141q
            have e141 : T141.heap = T111.heap := e141q
            have pre142 : ∀ tg, own_S p e below T141 m 277 #[iv i1, iv i2, iv i3, iv i4, iv i5, iv ca, iv cb, iv cc, iv cd, iv (4 : Int32), iv (0 : Int32), rv b7, iv ca, iv cb, iv cc, iv cd, iv (e3 + (own_st cd ca cb cc cd (4 : Int32) (0 : Int32)))] [] tg → Steps p.tables e below (s₁.setTop (entryFrame m #[(.int i1), (.int i2), (.int i3), (.int i4), (.int i5)] maxLocals)) tg := fun tg k => pre139 tg (by
              show own_S p e below Tj122 m 252 #[iv i1, iv i2, iv i3, iv i4, iv i5, iv ca, iv cb, iv cc, iv cd, iv (4 : Int32), iv (0 : Int32), rv b7, iv ca, iv cb, iv cc, iv cd, iv e3] [(.int cc), (.int cd)] _
              refine XS.icmpNo Xj122.here hx rfl (hb hby at_252) rfl (feq hc252_138).1 ?_
              refine XS.iload Xj122.here hx rfl (hb hby at_255) rfl ?_
              refine XS.iload Xj122.here hx rfl (hb hby at_257) rfl ?_
              show own_S p e below Tj122 m 259 #[iv i1, iv i2, iv i3, iv i4, iv i5, iv ca, iv cb, iv cc, iv cd, iv (4 : Int32), iv (0 : Int32), rv b7, iv ca, iv cb, iv cc, iv cd, iv e3] [(.int cd), (.int e3)] _
              refine XS.iload Xj122.here hx rfl (hb hby at_259) rfl ?_
              refine XS.iload Xj122.here hx rfl (hb hby at_261) rfl ?_
              refine XS.iload Xj122.here hx rfl (hb hby at_263) rfl ?_
              show own_S p e below Tj122 m 265 #[iv i1, iv i2, iv i3, iv i4, iv i5, iv ca, iv cb, iv cc, iv cd, iv (4 : Int32), iv (0 : Int32), rv b7, iv ca, iv cb, iv cc, iv cd, iv e3] [(.int cc), (.int cb), (.int ca), (.int cd), (.int e3)] _
              refine XS.iload Xj122.here hx rfl (hb hby at_265) rfl ?_
              refine XS.iload Xj122.here hx rfl (hb hby at_267) rfl ?_
              refine XS.iload Xj122.here hx rfl (hb hby at_269) rfl ?_
              show own_S p e below Tj122 m 271 #[iv i1, iv i2, iv i3, iv i4, iv i5, iv ca, iv cb, iv cc, iv cd, iv (4 : Int32), iv (0 : Int32), rv b7, iv ca, iv cb, iv cc, iv cd, iv e3] [(.int (0 : Int32)), (.int (4 : Int32)), (.int cd), (.int cc), (.int cb), (.int ca), (.int cd), (.int e3)] _
              refine st141 _ ?_
              refine XS.iadd X141.here hx rfl (hb hby at_274) rfl ?_
              refine XS.istore X141.here hx rfl (hb hby at_275) rfl (l' := #[iv i1, iv i2, iv i3, iv i4, iv i5, iv ca, iv cb, iv cc, iv cd, iv (4 : Int32), iv (0 : Int32), rv b7, iv ca, iv cb, iv cc, iv cd, iv (e3 + (own_st cd ca cb cc cd (4 : Int32) (0 : Int32)))]) rfl ?_
              exact k)
            exact ⟨T141, _, X141, e141, N141, (e3 + (own_st cd ca cb cc cd (4 : Int32) (0 : Int32))), (by first | exact Or.inl ⟨by simp [hc238_132, hc245_135, hc252_138], rfl⟩ | exact Or.inr ⟨by simp [hc238_132, hc245_135, hc252_138], rfl⟩), pre142⟩
    obtain ⟨dd, hdd, hsum, hmd⟩ := own_dd4 (fun x => own_st x ca cb cc cd (4 : Int32) (0 : Int32)) ca cb cc cd e1 e2 e3 e4 he1 h_e2 h_e3 h_e4
    have hset : ∀ x, x ∈ ys111 ↔ own_set ca cb cc cd (4 : Int32) (0 : Int32) x := fun x => by
      rw [hm111]; rw [hm109]; rw [hm107]; rw [hm8]
      simp only [own_set, (by decide : (1 : Int32) < 4), (by decide : (2 : Int32) < 4), (by decide : (3 : Int32) < 4), true_and, false_and, or_false, false_or, (by decide : (0 : Int32) = 0), and_true, and_false]
      try (by_cases q : x = ca <;> simp [q, or_assoc])
    have hfin : own_runs ys111 = e4 := by
      rw [hsum]
      refine own_plain hs111 (own_rng_of hch111) hdd (fun x hx => (hmd x).mpr ?_) (fun x => own_st_f hset x)
      have := (hset x).mp hx
      simp only [own_set, (by decide : (1 : Int32) < 4), (by decide : (2 : Int32) < 4), (by decide : (3 : Int32) < 4), true_and, false_and, or_false, false_or] at this
      rcases this with this | this
      · simp [this.1]
      · rcases this.2 with h | h | h <;> simp [h]
    obtain ⟨cq143, kq143, q143a, q143b, q143c⟩ := isOf hZ ej131 E111c
    obtain ⟨_, _, ⟨T143, L143, k143, n143⟩, -, X143, ⟨Lc143, hQ143, l143, y143, z143⟩, st143⟩ := Xj131.interfaceBack hx (xi := (⟨"com/example/bitstrata/bitstrata/Container", "runCount", "()I"⟩ : MethodName)) (y := (⟨"com/example/bitstrata/bitstrata/ArrayContainer", "runCount", "()I"⟩ : MethodName)) hown (mvT hZ (hw _ (List.mem_of_getElem? (i := 21) rfl))) (mvT hZ (hw _ (List.mem_of_getElem? (i := 22) rfl))) (mvT hZ (hw _ (List.mem_of_getElem? (i := 23) rfl))) (mvT hZ (hw _ (List.mem_of_getElem? (i := 24) rfl))) (mvT hZ (hw _ (List.mem_of_getElem? (i := 25) rfl))) (mvT hZ (hw _ (List.mem_of_getElem? (i := 26) rfl))) (mvT hZ (hw _ (List.mem_of_getElem? (i := 27) rfl))) (mvT hZ (hw _ (List.mem_of_getElem? (i := 28) rfl))) (by decide) (backOf (W := 0) (rmRun l Z a0 hw [] b7 u111 ku111 ys111 (own_vs ys111) T111.heap n0 Zs114 Fv111 Fc111 (own_z4 V111u (by omega)) (by omega) (own_pre_vs ys111 (by omega))) hZ (hw _ (List.mem_of_getElem? (i := 29) rfl)) (hw _ (List.mem_of_getElem? (i := 2) rfl)) (by decide) (by decide)) q143a q143b q143c (g := (mkF m 279 #[iv i1, iv i2, iv i3, iv i4, iv i5, iv ca, iv cb, iv cc, iv cd, iv (4 : Int32), iv (0 : Int32), rv b7, iv ca, iv cb, iv cc, iv cd, iv e4] [(.ref b7)])) rfl (by rw [hml]; rfl) (Steps.refl _) (argsL := []) (rest := []) (lenOf pd_5 rfl) rfl (by show 2 * 0 + _ ≤ _; exact Nat.le_of_eq rfl) (hb hby at_279) (fun _ _ => ⟨rfl, ej131, (by decide : 2 + 0 ≤ _), (by decide : 6 + 0 ≤ _)⟩)
    dsimp only [Pt.U, Pt.locs, Pt.cells, Pt.slots] at X143 l143 y143 z143 st143 hQ143
    subst l143 y143 z143
    obtain ⟨rfl, N143q, e143q⟩ := hQ143
    have N143 := Fr.app Nj131 N143q
    have e143 : T143.heap = T111.heap := e143q
    have pre144 : ∀ tg, own_S p e below T143 m 294 #[iv i1, iv i2, iv i3, iv i4, iv i5, iv ca, iv cb, iv cc, iv cd, iv (4 : Int32), iv (0 : Int32), rv b7, iv ca, iv cb, iv cc, iv cd, iv e4] [(.int (1 : Int32))] tg → Steps p.tables e below (s₁.setTop (entryFrame m #[(.int i1), (.int i2), (.int i3), (.int i4), (.int i5)] maxLocals)) tg := fun tg k => prej131 tg (by
      show own_S p e below Tj131 m 277 #[iv i1, iv i2, iv i3, iv i4, iv i5, iv ca, iv cb, iv cc, iv cd, iv (4 : Int32), iv (0 : Int32), rv b7, iv ca, iv cb, iv cc, iv cd, iv e4] [] _
      refine XS.aload Xj131.here hx rfl (hb hby at_277) rfl rfl ?_
      refine st143.trans ?_
      refine XS.iload X143.here hx rfl (hb hby at_284) rfl ?_
      show own_S p e below T143 m 286 #[iv i1, iv i2, iv i3, iv i4, iv i5, iv ca, iv cb, iv cc, iv cd, iv (4 : Int32), iv (0 : Int32), rv b7, iv ca, iv cb, iv cc, iv cd, iv e4] [(.int e4), (.int (own_runs ys111))] _
      refine XS.icmpNo X143.here hx rfl (hb hby at_286) rfl (teq hfin).2 ?_
      refine XS.iconst X143.here hx rfl (hb hby at_289) ?_
      refine XS.goto X143.here hx rfl (pc0 := 290) (pc' := 294) rfl (hb hby at_290) (by decide) (by decide) ?_
      exact k)
    obtain ⟨fs, hr, hrun, hended, hW, hsame⟩ := X143.leave (v := some (.int (nar .boolean (1 : Int32)))) (fun h => by rw [Bd.returns] at h; cases h)
    refine ⟨_, _, pre144 _ ?_, hrun, hended, _, _, rfl, ?_, ⟨_, rfl⟩, hW, hsame.mono (by decide) (by decide)⟩
    · show own_S p e below T143 m 294 #[iv i1, iv i2, iv i3, iv i4, iv i5, iv ca, iv cb, iv cc, iv cd, iv (4 : Int32), iv (0 : Int32), rv b7, iv ca, iv cb, iv cc, iv cd, iv e4] [(.int (1 : Int32))] _
      exact retN X143 hx (t := .boolean) Bd.returns (by simp) (hb hby at_294) hr
    · show Q0 Z i1 i2 i3 i4 i5 h0 n0 _ T143.heap _
      rw [e143]
      exact ⟨rfl, N143⟩
  ·  -- case
    have Zs146 : n0 ≤ T8.heap.size := (Nat.le_trans Zs9 K8.1)
    obtain ⟨cq145, kq145, q145a, q145b, q145c⟩ := isOf hZ rfl E8c
    obtain ⟨_, _, ⟨T145, L145, k145, n145⟩, -, X145, ⟨Lc145, hQ145, l145, y145, z145⟩, st145⟩ := X8.interfaceBack hx (xi := (⟨"com/example/bitstrata/bitstrata/Container", "add", "(C)Lcom/example/bitstrata/bitstrata/Container;"⟩ : MethodName)) (y := (⟨"com/example/bitstrata/bitstrata/ArrayContainer", "add", "(C)Lcom/example/bitstrata/bitstrata/Container;"⟩ : MethodName)) hown (mvT hZ (hw _ (List.mem_of_getElem? (i := 30) rfl))) (mvT hZ (hw _ (List.mem_of_getElem? (i := 31) rfl))) (mvT hZ (hw _ (List.mem_of_getElem? (i := 32) rfl))) (mvT hZ (hw _ (List.mem_of_getElem? (i := 33) rfl))) (mvT hZ (hw _ (List.mem_of_getElem? (i := 34) rfl))) (mvT hZ (hw _ (List.mem_of_getElem? (i := 35) rfl))) (mvT hZ (hw _ (List.mem_of_getElem? (i := 36) rfl))) (mvT hZ (hw _ (List.mem_of_getElem? (i := 28) rfl))) (by decide) (backOf (W := 0) (rmAdd l Z a0 hw [] b7 cb t8 k_8 [ca] T8.heap n0 Zs146 E8c g_b7 g_t8 Fv8 Fcb8 Vb8 ne_t8 (Nat.le_refl 1 : 1 ≤ [ca].length) (by omega) (trivial : own_srt [ca]) (by intro x hx; cases List.mem_singleton.mp hx; exact hk_ca : own_chs [ca]) hk_cb) hZ (hw _ (List.mem_of_getElem? (i := 37) rfl)) (hw _ (List.mem_of_getElem? (i := 2) rfl)) (by decide) (by decide)) q145a q145b q145c (g := (mkF m 59 #[iv i1, iv i2, iv i3, iv i4, iv i5, iv ca, iv cb, iv cc, iv cd, iv (4 : Int32), iv (1 : Int32), rv b7, .unset, .unset, .unset, .unset, .unset] [(.int cb), (.ref b7)])) rfl (by rw [hml]; rfl) (Steps.refl _) (argsL := [(.int cb)]) (rest := []) (lenOf pd_6 rfl) rfl (by show 2 * 0 + _ ≤ _; exact Nat.le_of_eq rfl) (hb hby at_59) (fun _ _ => ⟨rfl, rfl, (by decide : 2 + 0 ≤ _), (by decide : 6 + 0 ≤ _)⟩)
    dsimp only [Pt.U, Pt.locs, Pt.cells, Pt.slots] at X145 l145 y145 z145 st145 hQ145
    subst l145 y145 z145
    obtain ⟨ys145, u145, ku145, rfl, N145q, K145, E145c, Fv145, Fc145, V145u, g_u145, ne_u145, -, l1_145, l2_145, hs145, hch145, hm145⟩ := hQ145
    have N145 := Fr.app N8 N145q
    have Zs148 : n0 ≤ T145.heap.size := (Nat.le_trans Zs146 K145.1)
    obtain ⟨cq147, kq147, q147a, q147b, q147c⟩ := isOf hZ rfl E145c
    obtain ⟨_, _, ⟨T147, L147, k147, n147⟩, -, X147, ⟨Lc147, hQ147, l147, y147, z147⟩, st147⟩ := X145.interfaceBack hx (xi := (⟨"com/example/bitstrata/bitstrata/Container", "add", "(C)Lcom/example/bitstrata/bitstrata/Container;"⟩ : MethodName)) (y := (⟨"com/example/bitstrata/bitstrata/ArrayContainer", "add", "(C)Lcom/example/bitstrata/bitstrata/Container;"⟩ : MethodName)) hown (mvT hZ (hw _ (List.mem_of_getElem? (i := 30) rfl))) (mvT hZ (hw _ (List.mem_of_getElem? (i := 31) rfl))) (mvT hZ (hw _ (List.mem_of_getElem? (i := 32) rfl))) (mvT hZ (hw _ (List.mem_of_getElem? (i := 33) rfl))) (mvT hZ (hw _ (List.mem_of_getElem? (i := 34) rfl))) (mvT hZ (hw _ (List.mem_of_getElem? (i := 35) rfl))) (mvT hZ (hw _ (List.mem_of_getElem? (i := 36) rfl))) (mvT hZ (hw _ (List.mem_of_getElem? (i := 28) rfl))) (by decide) (backOf (W := 0) (rmAdd l Z a0 hw [] b7 cc u145 ku145 ys145 T145.heap n0 Zs148 E145c g_b7 g_u145 Fv145 Fc145 V145u ne_u145 l1_145 (by omega) hs145 hch145 hk_cc) hZ (hw _ (List.mem_of_getElem? (i := 37) rfl)) (hw _ (List.mem_of_getElem? (i := 2) rfl)) (by decide) (by decide)) q147a q147b q147c (g := (mkF m 76 #[iv i1, iv i2, iv i3, iv i4, iv i5, iv ca, iv cb, iv cc, iv cd, iv (4 : Int32), iv (1 : Int32), rv b7, .unset, .unset, .unset, .unset, .unset] [(.int cc), (.ref b7)])) rfl (by rw [hml]; rfl) (Steps.refl _) (argsL := [(.int cc)]) (rest := []) (lenOf pd_6 rfl) rfl (by show 2 * 0 + _ ≤ _; exact Nat.le_of_eq rfl) (hb hby at_76) (fun _ _ => ⟨rfl, rfl, (by decide : 2 + 0 ≤ _), (by decide : 6 + 0 ≤ _)⟩)
    dsimp only [Pt.U, Pt.locs, Pt.cells, Pt.slots] at X147 l147 y147 z147 st147 hQ147
    subst l147 y147 z147
    obtain ⟨ys147, u147, ku147, rfl, N147q, K147, E147c, Fv147, Fc147, V147u, g_u147, ne_u147, -, l1_147, l2_147, hs147, hch147, hm147⟩ := hQ147
    have N147 := Fr.app N145 N147q
    have Zs150 : n0 ≤ T147.heap.size := (Nat.le_trans Zs148 K147.1)
    obtain ⟨cq149, kq149, q149a, q149b, q149c⟩ := isOf hZ rfl E147c
    obtain ⟨_, _, ⟨T149, L149, k149, n149⟩, -, X149, ⟨Lc149, hQ149, l149, y149, z149⟩, st149⟩ := X147.interfaceBack hx (xi := (⟨"com/example/bitstrata/bitstrata/Container", "add", "(C)Lcom/example/bitstrata/bitstrata/Container;"⟩ : MethodName)) (y := (⟨"com/example/bitstrata/bitstrata/ArrayContainer", "add", "(C)Lcom/example/bitstrata/bitstrata/Container;"⟩ : MethodName)) hown (mvT hZ (hw _ (List.mem_of_getElem? (i := 30) rfl))) (mvT hZ (hw _ (List.mem_of_getElem? (i := 31) rfl))) (mvT hZ (hw _ (List.mem_of_getElem? (i := 32) rfl))) (mvT hZ (hw _ (List.mem_of_getElem? (i := 33) rfl))) (mvT hZ (hw _ (List.mem_of_getElem? (i := 34) rfl))) (mvT hZ (hw _ (List.mem_of_getElem? (i := 35) rfl))) (mvT hZ (hw _ (List.mem_of_getElem? (i := 36) rfl))) (mvT hZ (hw _ (List.mem_of_getElem? (i := 28) rfl))) (by decide) (backOf (W := 0) (rmAdd l Z a0 hw [] b7 cd u147 ku147 ys147 T147.heap n0 Zs150 E147c g_b7 g_u147 Fv147 Fc147 V147u ne_u147 l1_147 (by omega) hs147 hch147 hk_cd) hZ (hw _ (List.mem_of_getElem? (i := 37) rfl)) (hw _ (List.mem_of_getElem? (i := 2) rfl)) (by decide) (by decide)) q149a q149b q149c (g := (mkF m 93 #[iv i1, iv i2, iv i3, iv i4, iv i5, iv ca, iv cb, iv cc, iv cd, iv (4 : Int32), iv (1 : Int32), rv b7, .unset, .unset, .unset, .unset, .unset] [(.int cd), (.ref b7)])) rfl (by rw [hml]; rfl) (Steps.refl _) (argsL := [(.int cd)]) (rest := []) (lenOf pd_6 rfl) rfl (by show 2 * 0 + _ ≤ _; exact Nat.le_of_eq rfl) (hb hby at_93) (fun _ _ => ⟨rfl, rfl, (by decide : 2 + 0 ≤ _), (by decide : 6 + 0 ≤ _)⟩)
    dsimp only [Pt.U, Pt.locs, Pt.cells, Pt.slots] at X149 l149 y149 z149 st149 hQ149
    subst l149 y149 z149
    obtain ⟨ys149, u149, ku149, rfl, N149q, K149, E149c, Fv149, Fc149, V149u, g_u149, ne_u149, -, l1_149, l2_149, hs149, hch149, hm149⟩ := hQ149
    have N149 := Fr.app N147 N149q
    have Zs152 : n0 ≤ T149.heap.size := (Nat.le_trans Zs150 K149.1)
    obtain ⟨cq151, kq151, q151a, q151b, q151c⟩ := isOf hZ rfl E149c
    obtain ⟨_, _, ⟨T151, L151, k151, n151⟩, -, X151, ⟨Lc151, hQ151, l151, y151, z151⟩, st151⟩ := X149.interfaceBack hx (xi := (⟨"com/example/bitstrata/bitstrata/Container", "remove", "(C)Lcom/example/bitstrata/bitstrata/Container;"⟩ : MethodName)) (y := (⟨"com/example/bitstrata/bitstrata/ArrayContainer", "remove", "(C)Lcom/example/bitstrata/bitstrata/Container;"⟩ : MethodName)) hown (mvT hZ (hw _ (List.mem_of_getElem? (i := 52) rfl))) (mvT hZ (hw _ (List.mem_of_getElem? (i := 53) rfl))) (mvT hZ (hw _ (List.mem_of_getElem? (i := 54) rfl))) (mvT hZ (hw _ (List.mem_of_getElem? (i := 55) rfl))) (mvT hZ (hw _ (List.mem_of_getElem? (i := 56) rfl))) (mvT hZ (hw _ (List.mem_of_getElem? (i := 57) rfl))) (mvT hZ (hw _ (List.mem_of_getElem? (i := 58) rfl))) (mvT hZ (hw _ (List.mem_of_getElem? (i := 28) rfl))) (by decide) (backOf (W := 0) (rmRem l Z a0 hw [] b7 ca u149 ku149 ys149 T149.heap n0 Zs152 E149c g_b7 g_u149 Fv149 Fc149 V149u ne_u149 l1_149 (by omega) hs149 hch149 ((hm149 _).mpr (Or.inl ((hm147 _).mpr (Or.inl ((hm145 _).mpr (Or.inl ((hm8 _).mpr rfl)))))))) hZ (hw _ (List.mem_of_getElem? (i := 59) rfl)) (hw _ (List.mem_of_getElem? (i := 2) rfl)) (by decide) (by decide)) q151a q151b q151c (g := (mkF m 109 #[iv i1, iv i2, iv i3, iv i4, iv i5, iv ca, iv cb, iv cc, iv cd, iv (4 : Int32), iv (1 : Int32), rv b7, .unset, .unset, .unset, .unset, .unset] [(.int ca), (.ref b7)])) rfl (by rw [hml]; rfl) (Steps.refl _) (argsL := [(.int ca)]) (rest := []) (lenOf pd_6 rfl) rfl (by show 2 * 0 + _ ≤ _; exact Nat.le_of_eq rfl) (hb hby at_109) (fun _ _ => ⟨rfl, rfl, (by decide : 2 + 0 ≤ _), (by decide : 6 + 0 ≤ _)⟩)
    dsimp only [Pt.U, Pt.locs, Pt.cells, Pt.slots] at X151 l151 y151 z151 st151 hQ151
    subst l151 y151 z151
    obtain ⟨ys151, vs151, rfl, N151q, K151, E151c, Fv151, Fc151, V151u, l2_151, pr151, hs151, hch151, hm151⟩ := hQ151
    have N151 := Fr.app N149 N151q
    have Zs154 : n0 ≤ T151.heap.size := (Nat.le_trans Zs152 K151.1)
    obtain ⟨_, _, ⟨T153, L153, k153, n153⟩, -, X153, ⟨Lc153, hQ153, l153, y153, z153⟩, st153⟩ := Jvm.LawKit.callS X151 hx (y := (⟨"com/example/bitstrata/bitstrata/ArrayContainerRunCountPinLaw", "starts", "(IIIIIIZ)I"⟩ : MethodName)) hown (mvT hZ (hw _ (List.mem_of_getElem? (i := 14) rfl))) (mvT hZ (hw _ (List.mem_of_getElem? (i := 15) rfl))) (mvT hZ (hw _ (List.mem_of_getElem? (i := 16) rfl))) (mvT hZ (hw _ (List.mem_of_getElem? (i := 17) rfl))) (by decide) (backOf (W := 0) (rmSt l Z a0 hw [] ca ca cb cc cd (4 : Int32) (1 : Int32) T151.heap n0 Zs154 ) hZ (hw _ (List.mem_of_getElem? (i := 17) rfl)) (hw _ (List.mem_of_getElem? (i := 16) rfl)) (by decide) (by decide)) (g := (mkF m 146 #[iv i1, iv i2, iv i3, iv i4, iv i5, iv ca, iv cb, iv cc, iv cd, iv (4 : Int32), iv (1 : Int32), rv b7, iv ca, iv cb, iv cc, iv cd, .unset] [(.int (1 : Int32)), (.int (4 : Int32)), (.int cd), (.int cc), (.int cb), (.int ca), (.int ca)])) rfl (by rw [hml]; rfl) (argsL := [(.int ca), (.int ca), (.int cb), (.int cc), (.int cd), (.int (4 : Int32)), (.int (1 : Int32))]) (rest := []) (lenOf pd_4 rfl) rfl (by show 2 * 0 + _ ≤ _; exact Nat.le_of_eq rfl) (hb hby at_146) (fun _ _ => ⟨rfl, rfl, (by decide : 2 + 0 ≤ _), (by decide : 6 + 0 ≤ _)⟩)
    dsimp only [Pt.U, Pt.locs, Pt.cells, Pt.slots] at X153 l153 y153 z153 st153 hQ153
    subst l153 y153 z153
    obtain ⟨rfl, N153q, e153q⟩ := hQ153
    have N153 := Fr.app N151 N153q
    have e153 : T153.heap = T151.heap := e153q
    have pre155 : ∀ tg, own_S p e below T153 m 151 #[iv i1, iv i2, iv i3, iv i4, iv i5, iv ca, iv cb, iv cc, iv cd, iv (4 : Int32), iv (1 : Int32), rv b7, iv ca, iv cb, iv cc, iv cd, iv (own_st ca ca cb cc cd (4 : Int32) (1 : Int32))] [] tg → Steps p.tables e below (s₁.setTop (entryFrame m #[(.int i1), (.int i2), (.int i3), (.int i4), (.int i5)] maxLocals)) tg := fun tg k => pre10 tg (by
      show own_S p e below T8 m 49 #[iv i1, iv i2, iv i3, iv i4, iv i5, iv ca, iv cb, iv cc, iv cd, iv (4 : Int32), iv (1 : Int32), rv b7, .unset, .unset, .unset, .unset, .unset] [] _
      refine XS.iload X8.here hx rfl (hb hby at_49) rfl ?_
      refine XS.iconst X8.here hx rfl (hb hby at_51) ?_
      refine XS.icmpNo X8.here hx rfl (hb hby at_52) rfl (tlt (by decide : (1 : Int32) < (4 : Int32))).2.2.2 ?_
      show own_S p e below T8 m 55 #[iv i1, iv i2, iv i3, iv i4, iv i5, iv ca, iv cb, iv cc, iv cd, iv (4 : Int32), iv (1 : Int32), rv b7, .unset, .unset, .unset, .unset, .unset] [] _
      refine XS.aload X8.here hx rfl (hb hby at_55) rfl rfl ?_
      refine XS.iload X8.here hx rfl (hb hby at_57) rfl ?_
      refine st145.trans ?_
      show own_S p e below T145 m 64 #[iv i1, iv i2, iv i3, iv i4, iv i5, iv ca, iv cb, iv cc, iv cd, iv (4 : Int32), iv (1 : Int32), rv b7, .unset, .unset, .unset, .unset, .unset] [(.ref b7)] _
      refine XS.astore X145.here hx rfl (hb hby at_64) rfl rfl (l' := #[iv i1, iv i2, iv i3, iv i4, iv i5, iv ca, iv cb, iv cc, iv cd, iv (4 : Int32), iv (1 : Int32), rv b7, .unset, .unset, .unset, .unset, .unset]) rfl ?_
      refine XS.iload X145.here hx rfl (hb hby at_66) rfl ?_
      refine XS.iconst X145.here hx rfl (hb hby at_68) ?_
      show own_S p e below T145 m 69 #[iv i1, iv i2, iv i3, iv i4, iv i5, iv ca, iv cb, iv cc, iv cd, iv (4 : Int32), iv (1 : Int32), rv b7, .unset, .unset, .unset, .unset, .unset] [(.int (2 : Int32)), (.int (4 : Int32))] _
      refine XS.icmpNo X145.here hx rfl (hb hby at_69) rfl (tlt (by decide : (2 : Int32) < (4 : Int32))).2.2.2 ?_
      refine XS.aload X145.here hx rfl (hb hby at_72) rfl rfl ?_
      refine XS.iload X145.here hx rfl (hb hby at_74) rfl ?_
      show own_S p e below T145 m 76 #[iv i1, iv i2, iv i3, iv i4, iv i5, iv ca, iv cb, iv cc, iv cd, iv (4 : Int32), iv (1 : Int32), rv b7, .unset, .unset, .unset, .unset, .unset] [(.int cc), (.ref b7)] _
      refine st147.trans ?_
      refine XS.astore X147.here hx rfl (hb hby at_81) rfl rfl (l' := #[iv i1, iv i2, iv i3, iv i4, iv i5, iv ca, iv cb, iv cc, iv cd, iv (4 : Int32), iv (1 : Int32), rv b7, .unset, .unset, .unset, .unset, .unset]) rfl ?_
      refine XS.iload X147.here hx rfl (hb hby at_83) rfl ?_
      show own_S p e below T147 m 85 #[iv i1, iv i2, iv i3, iv i4, iv i5, iv ca, iv cb, iv cc, iv cd, iv (4 : Int32), iv (1 : Int32), rv b7, .unset, .unset, .unset, .unset, .unset] [(.int (4 : Int32))] _
      refine XS.iconst X147.here hx rfl (hb hby at_85) ?_
      refine XS.icmpNo X147.here hx rfl (hb hby at_86) rfl (tlt (by decide : (3 : Int32) < (4 : Int32))).2.2.2 ?_
      refine XS.aload X147.here hx rfl (hb hby at_89) rfl rfl ?_
      show own_S p e below T147 m 91 #[iv i1, iv i2, iv i3, iv i4, iv i5, iv ca, iv cb, iv cc, iv cd, iv (4 : Int32), iv (1 : Int32), rv b7, .unset, .unset, .unset, .unset, .unset] [(.ref b7)] _
      refine XS.iload X147.here hx rfl (hb hby at_91) rfl ?_
      refine st149.trans ?_
      refine XS.astore X149.here hx rfl (hb hby at_98) rfl rfl (l' := #[iv i1, iv i2, iv i3, iv i4, iv i5, iv ca, iv cb, iv cc, iv cd, iv (4 : Int32), iv (1 : Int32), rv b7, .unset, .unset, .unset, .unset, .unset]) rfl ?_
      show own_S p e below T149 m 100 #[iv i1, iv i2, iv i3, iv i4, iv i5, iv ca, iv cb, iv cc, iv cd, iv (4 : Int32), iv (1 : Int32), rv b7, .unset, .unset, .unset, .unset, .unset] [] _
      refine XS.iload X149.here hx rfl (hb hby at_100) rfl ?_
      refine XS.ifNo X149.here hx rfl (hb hby at_102) rfl ((if0 _ _).trans (feq (by decide : ¬ ((1 : Int32) = (0 : Int32)))).1) ?_
      refine XS.aload X149.here hx rfl (hb hby at_105) rfl rfl ?_
      show own_S p e below T149 m 107 #[iv i1, iv i2, iv i3, iv i4, iv i5, iv ca, iv cb, iv cc, iv cd, iv (4 : Int32), iv (1 : Int32), rv b7, .unset, .unset, .unset, .unset, .unset] [(.ref b7)] _
      refine XS.iload X149.here hx rfl (hb hby at_107) rfl ?_
      refine st151.trans ?_
      refine XS.astore X151.here hx rfl (hb hby at_114) rfl rfl (l' := #[iv i1, iv i2, iv i3, iv i4, iv i5, iv ca, iv cb, iv cc, iv cd, iv (4 : Int32), iv (1 : Int32), rv b7, .unset, .unset, .unset, .unset, .unset]) rfl ?_
      show own_S p e below T151 m 116 #[iv i1, iv i2, iv i3, iv i4, iv i5, iv ca, iv cb, iv cc, iv cd, iv (4 : Int32), iv (1 : Int32), rv b7, .unset, .unset, .unset, .unset, .unset] [] _
      refine XS.iload X151.here hx rfl (hb hby at_116) rfl ?_
      refine XS.istore X151.here hx rfl (hb hby at_118) rfl (l' := #[iv i1, iv i2, iv i3, iv i4, iv i5, iv ca, iv cb, iv cc, iv cd, iv (4 : Int32), iv (1 : Int32), rv b7, iv ca, .unset, .unset, .unset, .unset]) rfl ?_
      refine XS.iload X151.here hx rfl (hb hby at_120) rfl ?_
      show own_S p e below T151 m 122 #[iv i1, iv i2, iv i3, iv i4, iv i5, iv ca, iv cb, iv cc, iv cd, iv (4 : Int32), iv (1 : Int32), rv b7, iv ca, .unset, .unset, .unset, .unset] [(.int cb)] _
      refine XS.istore X151.here hx rfl (hb hby at_122) rfl (l' := #[iv i1, iv i2, iv i3, iv i4, iv i5, iv ca, iv cb, iv cc, iv cd, iv (4 : Int32), iv (1 : Int32), rv b7, iv ca, iv cb, .unset, .unset, .unset]) rfl ?_
      refine XS.iload X151.here hx rfl (hb hby at_124) rfl ?_
      refine XS.istore X151.here hx rfl (hb hby at_126) rfl (l' := #[iv i1, iv i2, iv i3, iv i4, iv i5, iv ca, iv cb, iv cc, iv cd, iv (4 : Int32), iv (1 : Int32), rv b7, iv ca, iv cb, iv cc, .unset, .unset]) rfl ?_
      show own_S p e below T151 m 128 #[iv i1, iv i2, iv i3, iv i4, iv i5, iv ca, iv cb, iv cc, iv cd, iv (4 : Int32), iv (1 : Int32), rv b7, iv ca, iv cb, iv cc, .unset, .unset] [] _
      refine XS.iload X151.here hx rfl (hb hby at_128) rfl ?_
      refine XS.istore X151.here hx rfl (hb hby at_130) rfl (l' := #[iv i1, iv i2, iv i3, iv i4, iv i5, iv ca, iv cb, iv cc, iv cd, iv (4 : Int32), iv (1 : Int32), rv b7, iv ca, iv cb, iv cc, iv cd, .unset]) rfl ?_
      refine XS.iload X151.here hx rfl (hb hby at_132) rfl ?_
      show own_S p e below T151 m 134 #[iv i1, iv i2, iv i3, iv i4, iv i5, iv ca, iv cb, iv cc, iv cd, iv (4 : Int32), iv (1 : Int32), rv b7, iv ca, iv cb, iv cc, iv cd, .unset] [(.int ca)] _
      refine XS.iload X151.here hx rfl (hb hby at_134) rfl ?_
      refine XS.iload X151.here hx rfl (hb hby at_136) rfl ?_
      refine XS.iload X151.here hx rfl (hb hby at_138) rfl ?_
      show own_S p e below T151 m 140 #[iv i1, iv i2, iv i3, iv i4, iv i5, iv ca, iv cb, iv cc, iv cd, iv (4 : Int32), iv (1 : Int32), rv b7, iv ca, iv cb, iv cc, iv cd, .unset] [(.int cc), (.int cb), (.int ca), (.int ca)] _
      refine XS.iload X151.here hx rfl (hb hby at_140) rfl ?_
      refine XS.iload X151.here hx rfl (hb hby at_142) rfl ?_
      refine XS.iload X151.here hx rfl (hb hby at_144) rfl ?_
      show own_S p e below T151 m 146 #[iv i1, iv i2, iv i3, iv i4, iv i5, iv ca, iv cb, iv cc, iv cd, iv (4 : Int32), iv (1 : Int32), rv b7, iv ca, iv cb, iv cc, iv cd, .unset] [(.int (1 : Int32)), (.int (4 : Int32)), (.int cd), (.int cc), (.int cb), (.int ca), (.int ca)] _
      refine st153 _ ?_
      refine XS.istore X153.here hx rfl (hb hby at_149) rfl (l' := #[iv i1, iv i2, iv i3, iv i4, iv i5, iv ca, iv cb, iv cc, iv cd, iv (4 : Int32), iv (1 : Int32), rv b7, iv ca, iv cb, iv cc, iv cd, iv (own_st ca ca cb cc cd (4 : Int32) (1 : Int32))]) rfl ?_
      exact k)
    obtain ⟨e1, he1⟩ : ∃ z, z = own_st ca ca cb cc cd (4 : Int32) (1 : Int32) := ⟨_, rfl⟩
    rw [← he1] at pre155
    obtain ⟨Tj156, Lj156, Xj156, ej156, Nj156, e2, h_e2, prej156⟩ : ∃ (Tj : State) (Lj : List Loc), Stand p l e room_1 s m #[(.int i1), (.int i2), (.int i3), (.int i4), (.int i5)] below meth c Tj Lj 2 6 ∧ Tj.heap = T151.heap ∧ Fr n0 Lj ∧ ∃ e2 : Int32, (((cb = ca) ∧ e2 = e1) ∨ (¬ (cb = ca) ∧ e2 = e1 + own_st cb ca cb cc cd (4 : Int32) (1 : Int32))) ∧ ∀ tg, own_S p e below Tj m 186 #[iv i1, iv i2, iv i3, iv i4, iv i5, iv ca, iv cb, iv cc, iv cd, iv (4 : Int32), iv (1 : Int32), rv b7, iv ca, iv cb, iv cc, iv cd, iv e2] [] tg → Steps p.tables e below (s₁.setTop (entryFrame m #[(.int i1), (.int i2), (.int i3), (.int i4), (.int i5)] maxLocals)) tg := by
      have pre158 : ∀ tg, own_S p e below T153 m 161 #[iv i1, iv i2, iv i3, iv i4, iv i5, iv ca, iv cb, iv cc, iv cd, iv (4 : Int32), iv (1 : Int32), rv b7, iv ca, iv cb, iv cc, iv cd, iv e1] [(.int ca), (.int cb)] tg → Steps p.tables e below (s₁.setTop (entryFrame m #[(.int i1), (.int i2), (.int i3), (.int i4), (.int i5)] maxLocals)) tg := fun tg k => pre155 tg (by
        show own_S p e below T153 m 151 #[iv i1, iv i2, iv i3, iv i4, iv i5, iv ca, iv cb, iv cc, iv cd, iv (4 : Int32), iv (1 : Int32), rv b7, iv ca, iv cb, iv cc, iv cd, iv e1] [] _
        refine XS.iload X153.here hx rfl (hb hby at_151) rfl ?_
        refine XS.iconst X153.here hx rfl (hb hby at_153) ?_
        refine XS.icmpNo X153.here hx rfl (hb hby at_154) rfl (tlt (by decide : (1 : Int32) < (4 : Int32))).2.2.2 ?_
        show own_S p e below T153 m 157 #[iv i1, iv i2, iv i3, iv i4, iv i5, iv ca, iv cb, iv cc, iv cd, iv (4 : Int32), iv (1 : Int32), rv b7, iv ca, iv cb, iv cc, iv cd, iv e1] [] _
        refine XS.iload X153.here hx rfl (hb hby at_157) rfl ?_
        refine XS.iload X153.here hx rfl (hb hby at_159) rfl ?_
        exact k)
      by_cases hc161_157 : cb = ca
      ·  -- pc 161 yes
        have pre159 : ∀ tg, own_S p e below T153 m 186 #[iv i1, iv i2, iv i3, iv i4, iv i5, iv ca, iv cb, iv cc, iv cd, iv (4 : Int32), iv (1 : Int32), rv b7, iv ca, iv cb, iv cc, iv cd, iv e1] [] tg → Steps p.tables e below (s₁.setTop (entryFrame m #[(.int i1), (.int i2), (.int i3), (.int i4), (.int i5)] maxLocals)) tg := fun tg k => pre158 tg (by
          show own_S p e below T153 m 161 #[iv i1, iv i2, iv i3, iv i4, iv i5, iv ca, iv cb, iv cc, iv cd, iv (4 : Int32), iv (1 : Int32), rv b7, iv ca, iv cb, iv cc, iv cd, iv e1] [(.int ca), (.int cb)] _
          refine XS.icmpYes X153.here hx rfl (pc0 := 161) (pc' := 186) rfl (hb hby at_161) rfl (teq hc161_157).1 (by decide) (by decide) ?_
          exact k)
        exact ⟨T153, _, X153, e153, N153, e1, (by first | exact Or.inl ⟨by simp [hc161_157], rfl⟩ | exact Or.inr ⟨by simp [hc161_157], rfl⟩), pre159⟩
      ·  -- pc 161 no
        obtain ⟨_, _, ⟨T160, L160, k160, n160⟩, -, X160, ⟨Lc160, hQ160, l160, y160, z160⟩, st160⟩ := Jvm.LawKit.callS X153 hx (y := (⟨"com/example/bitstrata/bitstrata/ArrayContainerRunCountPinLaw", "starts", "(IIIIIIZ)I"⟩ : MethodName)) hown (mvT hZ (hw _ (List.mem_of_getElem? (i := 14) rfl))) (mvT hZ (hw _ (List.mem_of_getElem? (i := 15) rfl))) (mvT hZ (hw _ (List.mem_of_getElem? (i := 16) rfl))) (mvT hZ (hw _ (List.mem_of_getElem? (i := 17) rfl))) (by decide) (backOf (W := 1) (rmSt l Z a0 hw [] cb ca cb cc cd (4 : Int32) (1 : Int32) T151.heap n0 Zs154 ) hZ (hw _ (List.mem_of_getElem? (i := 17) rfl)) (hw _ (List.mem_of_getElem? (i := 16) rfl)) (by decide) (by decide)) (g := (mkF m 180 #[iv i1, iv i2, iv i3, iv i4, iv i5, iv ca, iv cb, iv cc, iv cd, iv (4 : Int32), iv (1 : Int32), rv b7, iv ca, iv cb, iv cc, iv cd, iv e1] [(.int (1 : Int32)), (.int (4 : Int32)), (.int cd), (.int cc), (.int cb), (.int ca), (.int cb), (.int e1)])) rfl (by rw [hml]; rfl) (argsL := [(.int cb), (.int ca), (.int cb), (.int cc), (.int cd), (.int (4 : Int32)), (.int (1 : Int32))]) (rest := [(.int e1)]) (lenOf pd_4 rfl) rfl (by show 2 * 0 + _ ≤ _; exact Nat.le_of_eq rfl) (hb hby at_180) (fun _ _ => ⟨rfl, e153, (by decide : 2 + 0 ≤ _), (by decide : 6 + 0 ≤ _)⟩)
        dsimp only [Pt.U, Pt.locs, Pt.cells, Pt.slots] at X160 l160 y160 z160 st160 hQ160
        subst l160 y160 z160
        obtain ⟨rfl, N160q, e160q⟩ := hQ160
        have N160 := Fr.app N153 N160q
        have e160 : T160.heap = T151.heap := e160q
        have pre161 : ∀ tg, own_S p e below T160 m 186 #[iv i1, iv i2, iv i3, iv i4, iv i5, iv ca, iv cb, iv cc, iv cd, iv (4 : Int32), iv (1 : Int32), rv b7, iv ca, iv cb, iv cc, iv cd, iv (e1 + (own_st cb ca cb cc cd (4 : Int32) (1 : Int32)))] [] tg → Steps p.tables e below (s₁.setTop (entryFrame m #[(.int i1), (.int i2), (.int i3), (.int i4), (.int i5)] maxLocals)) tg := fun tg k => pre158 tg (by
          show own_S p e below T153 m 161 #[iv i1, iv i2, iv i3, iv i4, iv i5, iv ca, iv cb, iv cc, iv cd, iv (4 : Int32), iv (1 : Int32), rv b7, iv ca, iv cb, iv cc, iv cd, iv e1] [(.int ca), (.int cb)] _
          refine XS.icmpNo X153.here hx rfl (hb hby at_161) rfl (feq hc161_157).1 ?_
          refine XS.iload X153.here hx rfl (hb hby at_164) rfl ?_
          refine XS.iload X153.here hx rfl (hb hby at_166) rfl ?_
          show own_S p e below T153 m 168 #[iv i1, iv i2, iv i3, iv i4, iv i5, iv ca, iv cb, iv cc, iv cd, iv (4 : Int32), iv (1 : Int32), rv b7, iv ca, iv cb, iv cc, iv cd, iv e1] [(.int cb), (.int e1)] _
          refine XS.iload X153.here hx rfl (hb hby at_168) rfl ?_
          refine XS.iload X153.here hx rfl (hb hby at_170) rfl ?_
          refine XS.iload X153.here hx rfl (hb hby at_172) rfl ?_
          show own_S p e below T153 m 174 #[iv i1, iv i2, iv i3, iv i4, iv i5, iv ca, iv cb, iv cc, iv cd, iv (4 : Int32), iv (1 : Int32), rv b7, iv ca, iv cb, iv cc, iv cd, iv e1] [(.int cc), (.int cb), (.int ca), (.int cb), (.int e1)] _
          refine XS.iload X153.here hx rfl (hb hby at_174) rfl ?_
          refine XS.iload X153.here hx rfl (hb hby at_176) rfl ?_
          refine XS.iload X153.here hx rfl (hb hby at_178) rfl ?_
          show own_S p e below T153 m 180 #[iv i1, iv i2, iv i3, iv i4, iv i5, iv ca, iv cb, iv cc, iv cd, iv (4 : Int32), iv (1 : Int32), rv b7, iv ca, iv cb, iv cc, iv cd, iv e1] [(.int (1 : Int32)), (.int (4 : Int32)), (.int cd), (.int cc), (.int cb), (.int ca), (.int cb), (.int e1)] _
          refine st160 _ ?_
          refine XS.iadd X160.here hx rfl (hb hby at_183) rfl ?_
          refine XS.istore X160.here hx rfl (hb hby at_184) rfl (l' := #[iv i1, iv i2, iv i3, iv i4, iv i5, iv ca, iv cb, iv cc, iv cd, iv (4 : Int32), iv (1 : Int32), rv b7, iv ca, iv cb, iv cc, iv cd, iv (e1 + (own_st cb ca cb cc cd (4 : Int32) (1 : Int32)))]) rfl ?_
          exact k)
        exact ⟨T160, _, X160, e160, N160, (e1 + (own_st cb ca cb cc cd (4 : Int32) (1 : Int32))), (by first | exact Or.inl ⟨by simp [hc161_157], rfl⟩ | exact Or.inr ⟨by simp [hc161_157], rfl⟩), pre161⟩
    obtain ⟨Tj162, Lj162, Xj162, ej162, Nj162, e3, h_e3, prej162⟩ : ∃ (Tj : State) (Lj : List Loc), Stand p l e room_1 s m #[(.int i1), (.int i2), (.int i3), (.int i4), (.int i5)] below meth c Tj Lj 2 6 ∧ Tj.heap = T151.heap ∧ Fr n0 Lj ∧ ∃ e3 : Int32, (((cc = ca ∨ cc = cb) ∧ e3 = e2) ∨ (¬ (cc = ca ∨ cc = cb) ∧ e3 = e2 + own_st cc ca cb cc cd (4 : Int32) (1 : Int32))) ∧ ∀ tg, own_S p e below Tj m 228 #[iv i1, iv i2, iv i3, iv i4, iv i5, iv ca, iv cb, iv cc, iv cd, iv (4 : Int32), iv (1 : Int32), rv b7, iv ca, iv cb, iv cc, iv cd, iv e3] [] tg → Steps p.tables e below (s₁.setTop (entryFrame m #[(.int i1), (.int i2), (.int i3), (.int i4), (.int i5)] maxLocals)) tg := by
      have pre164 : ∀ tg, own_S p e below Tj156 m 196 #[iv i1, iv i2, iv i3, iv i4, iv i5, iv ca, iv cb, iv cc, iv cd, iv (4 : Int32), iv (1 : Int32), rv b7, iv ca, iv cb, iv cc, iv cd, iv e2] [(.int ca), (.int cc)] tg → Steps p.tables e below (s₁.setTop (entryFrame m #[(.int i1), (.int i2), (.int i3), (.int i4), (.int i5)] maxLocals)) tg := fun tg k => prej156 tg (by
        show own_S p e below Tj156 m 186 #[iv i1, iv i2, iv i3, iv i4, iv i5, iv ca, iv cb, iv cc, iv cd, iv (4 : Int32), iv (1 : Int32), rv b7, iv ca, iv cb, iv cc, iv cd, iv e2] [] _
        refine XS.iload Xj156.here hx rfl (hb hby at_186) rfl ?_
        refine XS.iconst Xj156.here hx rfl (hb hby at_188) ?_
        refine XS.icmpNo Xj156.here hx rfl (hb hby at_189) rfl (tlt (by decide : (2 : Int32) < (4 : Int32))).2.2.2 ?_
        show own_S p e below Tj156 m 192 #[iv i1, iv i2, iv i3, iv i4, iv i5, iv ca, iv cb, iv cc, iv cd, iv (4 : Int32), iv (1 : Int32), rv b7, iv ca, iv cb, iv cc, iv cd, iv e2] [] _
        refine XS.iload Xj156.here hx rfl (hb hby at_192) rfl ?_
        refine XS.iload Xj156.here hx rfl (hb hby at_194) rfl ?_
        exact k)
      by_cases hc196_163 : cc = ca
      ·  -- pc 196 yes
        have pre165 : ∀ tg, own_S p e below Tj156 m 228 #[iv i1, iv i2, iv i3, iv i4, iv i5, iv ca, iv cb, iv cc, iv cd, iv (4 : Int32), iv (1 : Int32), rv b7, iv ca, iv cb, iv cc, iv cd, iv e2] [] tg → Steps p.tables e below (s₁.setTop (entryFrame m #[(.int i1), (.int i2), (.int i3), (.int i4), (.int i5)] maxLocals)) tg := fun tg k => pre164 tg (by
          show own_S p e below Tj156 m 196 #[iv i1, iv i2, iv i3, iv i4, iv i5, iv ca, iv cb, iv cc, iv cd, iv (4 : Int32), iv (1 : Int32), rv b7, iv ca, iv cb, iv cc, iv cd, iv e2] [(.int ca), (.int cc)] _
          refine XS.icmpYes Xj156.here hx rfl (pc0 := 196) (pc' := 228) rfl (hb hby at_196) rfl (teq hc196_163).1 (by decide) (by decide) ?_
          exact k)
        exact ⟨Tj156, _, Xj156, ej156, Nj156, e2, (by first | exact Or.inl ⟨by simp [hc196_163], rfl⟩ | exact Or.inr ⟨by simp [hc196_163], rfl⟩), pre165⟩
      ·  -- pc 196 no
        have pre167 : ∀ tg, own_S p e below Tj156 m 203 #[iv i1, iv i2, iv i3, iv i4, iv i5, iv ca, iv cb, iv cc, iv cd, iv (4 : Int32), iv (1 : Int32), rv b7, iv ca, iv cb, iv cc, iv cd, iv e2] [(.int cb), (.int cc)] tg → Steps p.tables e below (s₁.setTop (entryFrame m #[(.int i1), (.int i2), (.int i3), (.int i4), (.int i5)] maxLocals)) tg := fun tg k => pre164 tg (by
          show own_S p e below Tj156 m 196 #[iv i1, iv i2, iv i3, iv i4, iv i5, iv ca, iv cb, iv cc, iv cd, iv (4 : Int32), iv (1 : Int32), rv b7, iv ca, iv cb, iv cc, iv cd, iv e2] [(.int ca), (.int cc)] _
          refine XS.icmpNo Xj156.here hx rfl (hb hby at_196) rfl (feq hc196_163).1 ?_
          refine XS.iload Xj156.here hx rfl (hb hby at_199) rfl ?_
          refine XS.iload Xj156.here hx rfl (hb hby at_201) rfl ?_
          exact k)
        by_cases hc203_166 : cc = cb
        ·  -- pc 203 yes
          have pre168 : ∀ tg, own_S p e below Tj156 m 228 #[iv i1, iv i2, iv i3, iv i4, iv i5, iv ca, iv cb, iv cc, iv cd, iv (4 : Int32), iv (1 : Int32), rv b7, iv ca, iv cb, iv cc, iv cd, iv e2] [] tg → Steps p.tables e below (s₁.setTop (entryFrame m #[(.int i1), (.int i2), (.int i3), (.int i4), (.int i5)] maxLocals)) tg := fun tg k => pre167 tg (by
            show own_S p e below Tj156 m 203 #[iv i1, iv i2, iv i3, iv i4, iv i5, iv ca, iv cb, iv cc, iv cd, iv (4 : Int32), iv (1 : Int32), rv b7, iv ca, iv cb, iv cc, iv cd, iv e2] [(.int cb), (.int cc)] _
            refine XS.icmpYes Xj156.here hx rfl (pc0 := 203) (pc' := 228) rfl (hb hby at_203) rfl (teq hc203_166).1 (by decide) (by decide) ?_
            exact k)
          exact ⟨Tj156, _, Xj156, ej156, Nj156, e2, (by first | exact Or.inl ⟨by simp [hc196_163, hc203_166], rfl⟩ | exact Or.inr ⟨by simp [hc196_163, hc203_166], rfl⟩), pre168⟩
        ·  -- pc 203 no
          obtain ⟨_, _, ⟨T169, L169, k169, n169⟩, -, X169, ⟨Lc169, hQ169, l169, y169, z169⟩, st169⟩ := Jvm.LawKit.callS Xj156 hx (y := (⟨"com/example/bitstrata/bitstrata/ArrayContainerRunCountPinLaw", "starts", "(IIIIIIZ)I"⟩ : MethodName)) hown (mvT hZ (hw _ (List.mem_of_getElem? (i := 14) rfl))) (mvT hZ (hw _ (List.mem_of_getElem? (i := 15) rfl))) (mvT hZ (hw _ (List.mem_of_getElem? (i := 16) rfl))) (mvT hZ (hw _ (List.mem_of_getElem? (i := 17) rfl))) (by decide) (backOf (W := 1) (rmSt l Z a0 hw [] cc ca cb cc cd (4 : Int32) (1 : Int32) T151.heap n0 Zs154 ) hZ (hw _ (List.mem_of_getElem? (i := 17) rfl)) (hw _ (List.mem_of_getElem? (i := 16) rfl)) (by decide) (by decide)) (g := (mkF m 222 #[iv i1, iv i2, iv i3, iv i4, iv i5, iv ca, iv cb, iv cc, iv cd, iv (4 : Int32), iv (1 : Int32), rv b7, iv ca, iv cb, iv cc, iv cd, iv e2] [(.int (1 : Int32)), (.int (4 : Int32)), (.int cd), (.int cc), (.int cb), (.int ca), (.int cc), (.int e2)])) rfl (by rw [hml]; rfl) (argsL := [(.int cc), (.int ca), (.int cb), (.int cc), (.int cd), (.int (4 : Int32)), (.int (1 : Int32))]) (rest := [(.int e2)]) (lenOf pd_4 rfl) rfl (by show 2 * 0 + _ ≤ _; exact Nat.le_of_eq rfl) (hb hby at_222) (fun _ _ => ⟨rfl, ej156, (by decide : 2 + 0 ≤ _), (by decide : 6 + 0 ≤ _)⟩)
          dsimp only [Pt.U, Pt.locs, Pt.cells, Pt.slots] at X169 l169 y169 z169 st169 hQ169
          subst l169 y169 z169
          obtain ⟨rfl, N169q, e169q⟩ := hQ169
          have N169 := Fr.app Nj156 N169q
          have e169 : T169.heap = T151.heap := e169q
          have pre170 : ∀ tg, own_S p e below T169 m 228 #[iv i1, iv i2, iv i3, iv i4, iv i5, iv ca, iv cb, iv cc, iv cd, iv (4 : Int32), iv (1 : Int32), rv b7, iv ca, iv cb, iv cc, iv cd, iv (e2 + (own_st cc ca cb cc cd (4 : Int32) (1 : Int32)))] [] tg → Steps p.tables e below (s₁.setTop (entryFrame m #[(.int i1), (.int i2), (.int i3), (.int i4), (.int i5)] maxLocals)) tg := fun tg k => pre167 tg (by
            show own_S p e below Tj156 m 203 #[iv i1, iv i2, iv i3, iv i4, iv i5, iv ca, iv cb, iv cc, iv cd, iv (4 : Int32), iv (1 : Int32), rv b7, iv ca, iv cb, iv cc, iv cd, iv e2] [(.int cb), (.int cc)] _
            refine XS.icmpNo Xj156.here hx rfl (hb hby at_203) rfl (feq hc203_166).1 ?_
            refine XS.iload Xj156.here hx rfl (hb hby at_206) rfl ?_
            refine XS.iload Xj156.here hx rfl (hb hby at_208) rfl ?_
            show own_S p e below Tj156 m 210 #[iv i1, iv i2, iv i3, iv i4, iv i5, iv ca, iv cb, iv cc, iv cd, iv (4 : Int32), iv (1 : Int32), rv b7, iv ca, iv cb, iv cc, iv cd, iv e2] [(.int cc), (.int e2)] _
            refine XS.iload Xj156.here hx rfl (hb hby at_210) rfl ?_
            refine XS.iload Xj156.here hx rfl (hb hby at_212) rfl ?_
            refine XS.iload Xj156.here hx rfl (hb hby at_214) rfl ?_
            show own_S p e below Tj156 m 216 #[iv i1, iv i2, iv i3, iv i4, iv i5, iv ca, iv cb, iv cc, iv cd, iv (4 : Int32), iv (1 : Int32), rv b7, iv ca, iv cb, iv cc, iv cd, iv e2] [(.int cc), (.int cb), (.int ca), (.int cc), (.int e2)] _
            refine XS.iload Xj156.here hx rfl (hb hby at_216) rfl ?_
            refine XS.iload Xj156.here hx rfl (hb hby at_218) rfl ?_
            refine XS.iload Xj156.here hx rfl (hb hby at_220) rfl ?_
            show own_S p e below Tj156 m 222 #[iv i1, iv i2, iv i3, iv i4, iv i5, iv ca, iv cb, iv cc, iv cd, iv (4 : Int32), iv (1 : Int32), rv b7, iv ca, iv cb, iv cc, iv cd, iv e2] [(.int (1 : Int32)), (.int (4 : Int32)), (.int cd), (.int cc), (.int cb), (.int ca), (.int cc), (.int e2)] _
            refine st169 _ ?_
            refine XS.iadd X169.here hx rfl (hb hby at_225) rfl ?_
            refine XS.istore X169.here hx rfl (hb hby at_226) rfl (l' := #[iv i1, iv i2, iv i3, iv i4, iv i5, iv ca, iv cb, iv cc, iv cd, iv (4 : Int32), iv (1 : Int32), rv b7, iv ca, iv cb, iv cc, iv cd, iv (e2 + (own_st cc ca cb cc cd (4 : Int32) (1 : Int32)))]) rfl ?_
            exact k)
          exact ⟨T169, _, X169, e169, N169, (e2 + (own_st cc ca cb cc cd (4 : Int32) (1 : Int32))), (by first | exact Or.inl ⟨by simp [hc196_163, hc203_166], rfl⟩ | exact Or.inr ⟨by simp [hc196_163, hc203_166], rfl⟩), pre170⟩
    obtain ⟨Tj171, Lj171, Xj171, ej171, Nj171, e4, h_e4, prej171⟩ : ∃ (Tj : State) (Lj : List Loc), Stand p l e room_1 s m #[(.int i1), (.int i2), (.int i3), (.int i4), (.int i5)] below meth c Tj Lj 2 6 ∧ Tj.heap = T151.heap ∧ Fr n0 Lj ∧ ∃ e4 : Int32, (((cd = ca ∨ cd = cb ∨ cd = cc) ∧ e4 = e3) ∨ (¬ (cd = ca ∨ cd = cb ∨ cd = cc) ∧ e4 = e3 + own_st cd ca cb cc cd (4 : Int32) (1 : Int32))) ∧ ∀ tg, own_S p e below Tj m 277 #[iv i1, iv i2, iv i3, iv i4, iv i5, iv ca, iv cb, iv cc, iv cd, iv (4 : Int32), iv (1 : Int32), rv b7, iv ca, iv cb, iv cc, iv cd, iv e4] [] tg → Steps p.tables e below (s₁.setTop (entryFrame m #[(.int i1), (.int i2), (.int i3), (.int i4), (.int i5)] maxLocals)) tg := by
      have pre173 : ∀ tg, own_S p e below Tj162 m 238 #[iv i1, iv i2, iv i3, iv i4, iv i5, iv ca, iv cb, iv cc, iv cd, iv (4 : Int32), iv (1 : Int32), rv b7, iv ca, iv cb, iv cc, iv cd, iv e3] [(.int ca), (.int cd)] tg → Steps p.tables e below (s₁.setTop (entryFrame m #[(.int i1), (.int i2), (.int i3), (.int i4), (.int i5)] maxLocals)) tg := fun tg k => prej162 tg (by
        show own_S p e below Tj162 m 228 #[iv i1, iv i2, iv i3, iv i4, iv i5, iv ca, iv cb, iv cc, iv cd, iv (4 : Int32), iv (1 : Int32), rv b7, iv ca, iv cb, iv cc, iv cd, iv e3] [] _
        refine XS.iload Xj162.here hx rfl (hb hby at_228) rfl ?_
        refine XS.iconst Xj162.here hx rfl (hb hby at_230) ?_
        refine XS.icmpNo Xj162.here hx rfl (hb hby at_231) rfl (tlt (by decide : (3 : Int32) < (4 : Int32))).2.2.2 ?_
        show own_S p e below Tj162 m 234 #[iv i1, iv i2, iv i3, iv i4, iv i5, iv ca, iv cb, iv cc, iv cd, iv (4 : Int32), iv (1 : Int32), rv b7, iv ca, iv cb, iv cc, iv cd, iv e3] [] _
        refine XS.iload Xj162.here hx rfl (hb hby at_234) rfl ?_
        refine XS.iload Xj162.here hx rfl (hb hby at_236) rfl ?_
        exact k)
      by_cases hc238_172 : cd = ca
      ·  -- pc 238 yes
        have pre174 : ∀ tg, own_S p e below Tj162 m 277 #[iv i1, iv i2, iv i3, iv i4, iv i5, iv ca, iv cb, iv cc, iv cd, iv (4 : Int32), iv (1 : Int32), rv b7, iv ca, iv cb, iv cc, iv cd, iv e3] [] tg → Steps p.tables e below (s₁.setTop (entryFrame m #[(.int i1), (.int i2), (.int i3), (.int i4), (.int i5)] maxLocals)) tg := fun tg k => pre173 tg (by
          show own_S p e below Tj162 m 238 #[iv i1, iv i2, iv i3, iv i4, iv i5, iv ca, iv cb, iv cc, iv cd, iv (4 : Int32), iv (1 : Int32), rv b7, iv ca, iv cb, iv cc, iv cd, iv e3] [(.int ca), (.int cd)] _
          refine XS.icmpYes Xj162.here hx rfl (pc0 := 238) (pc' := 277) rfl (hb hby at_238) rfl (teq hc238_172).1 (by decide) (by decide) ?_
          exact k)
        exact ⟨Tj162, _, Xj162, ej162, Nj162, e3, (by first | exact Or.inl ⟨by simp [hc238_172], rfl⟩ | exact Or.inr ⟨by simp [hc238_172], rfl⟩), pre174⟩
      ·  -- pc 238 no
        have pre176 : ∀ tg, own_S p e below Tj162 m 245 #[iv i1, iv i2, iv i3, iv i4, iv i5, iv ca, iv cb, iv cc, iv cd, iv (4 : Int32), iv (1 : Int32), rv b7, iv ca, iv cb, iv cc, iv cd, iv e3] [(.int cb), (.int cd)] tg → Steps p.tables e below (s₁.setTop (entryFrame m #[(.int i1), (.int i2), (.int i3), (.int i4), (.int i5)] maxLocals)) tg := fun tg k => pre173 tg (by
          show own_S p e below Tj162 m 238 #[iv i1, iv i2, iv i3, iv i4, iv i5, iv ca, iv cb, iv cc, iv cd, iv (4 : Int32), iv (1 : Int32), rv b7, iv ca, iv cb, iv cc, iv cd, iv e3] [(.int ca), (.int cd)] _
          refine XS.icmpNo Xj162.here hx rfl (hb hby at_238) rfl (feq hc238_172).1 ?_
          refine XS.iload Xj162.here hx rfl (hb hby at_241) rfl ?_
          refine XS.iload Xj162.here hx rfl (hb hby at_243) rfl ?_
          exact k)
        by_cases hc245_175 : cd = cb
        ·  -- pc 245 yes
          have pre177 : ∀ tg, own_S p e below Tj162 m 277 #[iv i1, iv i2, iv i3, iv i4, iv i5, iv ca, iv cb, iv cc, iv cd, iv (4 : Int32), iv (1 : Int32), rv b7, iv ca, iv cb, iv cc, iv cd, iv e3] [] tg → Steps p.tables e below (s₁.setTop (entryFrame m #[(.int i1), (.int i2), (.int i3), (.int i4), (.int i5)] maxLocals)) tg := fun tg k => pre176 tg (by
            show own_S p e below Tj162 m 245 #[iv i1, iv i2, iv i3, iv i4, iv i5, iv ca, iv cb, iv cc, iv cd, iv (4 : Int32), iv (1 : Int32), rv b7, iv ca, iv cb, iv cc, iv cd, iv e3] [(.int cb), (.int cd)] _
            refine XS.icmpYes Xj162.here hx rfl (pc0 := 245) (pc' := 277) rfl (hb hby at_245) rfl (teq hc245_175).1 (by decide) (by decide) ?_
            exact k)
          exact ⟨Tj162, _, Xj162, ej162, Nj162, e3, (by first | exact Or.inl ⟨by simp [hc238_172, hc245_175], rfl⟩ | exact Or.inr ⟨by simp [hc238_172, hc245_175], rfl⟩), pre177⟩
        ·  -- pc 245 no
          have pre179 : ∀ tg, own_S p e below Tj162 m 252 #[iv i1, iv i2, iv i3, iv i4, iv i5, iv ca, iv cb, iv cc, iv cd, iv (4 : Int32), iv (1 : Int32), rv b7, iv ca, iv cb, iv cc, iv cd, iv e3] [(.int cc), (.int cd)] tg → Steps p.tables e below (s₁.setTop (entryFrame m #[(.int i1), (.int i2), (.int i3), (.int i4), (.int i5)] maxLocals)) tg := fun tg k => pre176 tg (by
            show own_S p e below Tj162 m 245 #[iv i1, iv i2, iv i3, iv i4, iv i5, iv ca, iv cb, iv cc, iv cd, iv (4 : Int32), iv (1 : Int32), rv b7, iv ca, iv cb, iv cc, iv cd, iv e3] [(.int cb), (.int cd)] _
            refine XS.icmpNo Xj162.here hx rfl (hb hby at_245) rfl (feq hc245_175).1 ?_
            refine XS.iload Xj162.here hx rfl (hb hby at_248) rfl ?_
            refine XS.iload Xj162.here hx rfl (hb hby at_250) rfl ?_
            exact k)
          by_cases hc252_178 : cd = cc
          ·  -- pc 252 yes
            have pre180 : ∀ tg, own_S p e below Tj162 m 277 #[iv i1, iv i2, iv i3, iv i4, iv i5, iv ca, iv cb, iv cc, iv cd, iv (4 : Int32), iv (1 : Int32), rv b7, iv ca, iv cb, iv cc, iv cd, iv e3] [] tg → Steps p.tables e below (s₁.setTop (entryFrame m #[(.int i1), (.int i2), (.int i3), (.int i4), (.int i5)] maxLocals)) tg := fun tg k => pre179 tg (by
              show own_S p e below Tj162 m 252 #[iv i1, iv i2, iv i3, iv i4, iv i5, iv ca, iv cb, iv cc, iv cd, iv (4 : Int32), iv (1 : Int32), rv b7, iv ca, iv cb, iv cc, iv cd, iv e3] [(.int cc), (.int cd)] _
              refine XS.icmpYes Xj162.here hx rfl (pc0 := 252) (pc' := 277) rfl (hb hby at_252) rfl (teq hc252_178).1 (by decide) (by decide) ?_
              exact k)
            exact ⟨Tj162, _, Xj162, ej162, Nj162, e3, (by first | exact Or.inl ⟨by simp [hc238_172, hc245_175, hc252_178], rfl⟩ | exact Or.inr ⟨by simp [hc238_172, hc245_175, hc252_178], rfl⟩), pre180⟩
          ·  -- pc 252 no
            obtain ⟨_, _, ⟨T181, L181, k181, n181⟩, -, X181, ⟨Lc181, hQ181, l181, y181, z181⟩, st181⟩ := Jvm.LawKit.callS Xj162 hx (y := (⟨"com/example/bitstrata/bitstrata/ArrayContainerRunCountPinLaw", "starts", "(IIIIIIZ)I"⟩ : MethodName)) hown (mvT hZ (hw _ (List.mem_of_getElem? (i := 14) rfl))) (mvT hZ (hw _ (List.mem_of_getElem? (i := 15) rfl))) (mvT hZ (hw _ (List.mem_of_getElem? (i := 16) rfl))) (mvT hZ (hw _ (List.mem_of_getElem? (i := 17) rfl))) (by decide) (backOf (W := 1) (rmSt l Z a0 hw [] cd ca cb cc cd (4 : Int32) (1 : Int32) T151.heap n0 Zs154 ) hZ (hw _ (List.mem_of_getElem? (i := 17) rfl)) (hw _ (List.mem_of_getElem? (i := 16) rfl)) (by decide) (by decide)) (g := (mkF m 271 #[iv i1, iv i2, iv i3, iv i4, iv i5, iv ca, iv cb, iv cc, iv cd, iv (4 : Int32), iv (1 : Int32), rv b7, iv ca, iv cb, iv cc, iv cd, iv e3] [(.int (1 : Int32)), (.int (4 : Int32)), (.int cd), (.int cc), (.int cb), (.int ca), (.int cd), (.int e3)])) rfl (by rw [hml]; rfl) (argsL := [(.int cd), (.int ca), (.int cb), (.int cc), (.int cd), (.int (4 : Int32)), (.int (1 : Int32))]) (rest := [(.int e3)]) (lenOf pd_4 rfl) rfl (by show 2 * 0 + _ ≤ _; exact Nat.le_of_eq rfl) (hb hby at_271) (fun _ _ => ⟨rfl, ej162, (by decide : 2 + 0 ≤ _), (by decide : 6 + 0 ≤ _)⟩)
            dsimp only [Pt.U, Pt.locs, Pt.cells, Pt.slots] at X181 l181 y181 z181 st181 hQ181
            subst l181 y181 z181
            obtain ⟨rfl, N181q, e181q⟩ := hQ181
            have N181 := Fr.app Nj162 N181q
            have e181 : T181.heap = T151.heap := e181q
            have pre182 : ∀ tg, own_S p e below T181 m 277 #[iv i1, iv i2, iv i3, iv i4, iv i5, iv ca, iv cb, iv cc, iv cd, iv (4 : Int32), iv (1 : Int32), rv b7, iv ca, iv cb, iv cc, iv cd, iv (e3 + (own_st cd ca cb cc cd (4 : Int32) (1 : Int32)))] [] tg → Steps p.tables e below (s₁.setTop (entryFrame m #[(.int i1), (.int i2), (.int i3), (.int i4), (.int i5)] maxLocals)) tg := fun tg k => pre179 tg (by
              show own_S p e below Tj162 m 252 #[iv i1, iv i2, iv i3, iv i4, iv i5, iv ca, iv cb, iv cc, iv cd, iv (4 : Int32), iv (1 : Int32), rv b7, iv ca, iv cb, iv cc, iv cd, iv e3] [(.int cc), (.int cd)] _
              refine XS.icmpNo Xj162.here hx rfl (hb hby at_252) rfl (feq hc252_178).1 ?_
              refine XS.iload Xj162.here hx rfl (hb hby at_255) rfl ?_
              refine XS.iload Xj162.here hx rfl (hb hby at_257) rfl ?_
              show own_S p e below Tj162 m 259 #[iv i1, iv i2, iv i3, iv i4, iv i5, iv ca, iv cb, iv cc, iv cd, iv (4 : Int32), iv (1 : Int32), rv b7, iv ca, iv cb, iv cc, iv cd, iv e3] [(.int cd), (.int e3)] _
              refine XS.iload Xj162.here hx rfl (hb hby at_259) rfl ?_
              refine XS.iload Xj162.here hx rfl (hb hby at_261) rfl ?_
              refine XS.iload Xj162.here hx rfl (hb hby at_263) rfl ?_
              show own_S p e below Tj162 m 265 #[iv i1, iv i2, iv i3, iv i4, iv i5, iv ca, iv cb, iv cc, iv cd, iv (4 : Int32), iv (1 : Int32), rv b7, iv ca, iv cb, iv cc, iv cd, iv e3] [(.int cc), (.int cb), (.int ca), (.int cd), (.int e3)] _
              refine XS.iload Xj162.here hx rfl (hb hby at_265) rfl ?_
              refine XS.iload Xj162.here hx rfl (hb hby at_267) rfl ?_
              refine XS.iload Xj162.here hx rfl (hb hby at_269) rfl ?_
              show own_S p e below Tj162 m 271 #[iv i1, iv i2, iv i3, iv i4, iv i5, iv ca, iv cb, iv cc, iv cd, iv (4 : Int32), iv (1 : Int32), rv b7, iv ca, iv cb, iv cc, iv cd, iv e3] [(.int (1 : Int32)), (.int (4 : Int32)), (.int cd), (.int cc), (.int cb), (.int ca), (.int cd), (.int e3)] _
              refine st181 _ ?_
              refine XS.iadd X181.here hx rfl (hb hby at_274) rfl ?_
              refine XS.istore X181.here hx rfl (hb hby at_275) rfl (l' := #[iv i1, iv i2, iv i3, iv i4, iv i5, iv ca, iv cb, iv cc, iv cd, iv (4 : Int32), iv (1 : Int32), rv b7, iv ca, iv cb, iv cc, iv cd, iv (e3 + (own_st cd ca cb cc cd (4 : Int32) (1 : Int32)))]) rfl ?_
              exact k)
            exact ⟨T181, _, X181, e181, N181, (e3 + (own_st cd ca cb cc cd (4 : Int32) (1 : Int32))), (by first | exact Or.inl ⟨by simp [hc238_172, hc245_175, hc252_178], rfl⟩ | exact Or.inr ⟨by simp [hc238_172, hc245_175, hc252_178], rfl⟩), pre182⟩
    obtain ⟨dd, hdd, hsum, hmd⟩ := own_dd4 (fun x => own_st x ca cb cc cd (4 : Int32) (1 : Int32)) ca cb cc cd e1 e2 e3 e4 he1 h_e2 h_e3 h_e4
    have hset : ∀ x, x ∈ ys151 ↔ own_set ca cb cc cd (4 : Int32) (1 : Int32) x := fun x => by
      rw [hm151]; rw [hm149]; rw [hm147]; rw [hm145]; rw [hm8]
      simp only [own_set, (by decide : (1 : Int32) < 4), (by decide : (2 : Int32) < 4), (by decide : (3 : Int32) < 4), true_and, false_and, or_false, false_or, (by decide : ¬ (1 : Int32) = 0), and_true, and_false]
      try (by_cases q : x = ca <;> simp [q, or_assoc])
    have hfin : own_runs ys151 = e4 := by
      rw [hsum]
      refine own_plain hs151 (own_rng_of hch151) hdd (fun x hx => (hmd x).mpr ?_) (fun x => own_st_f hset x)
      have := (hset x).mp hx
      simp only [own_set, (by decide : (1 : Int32) < 4), (by decide : (2 : Int32) < 4), (by decide : (3 : Int32) < 4), true_and, false_and, or_false, false_or] at this
      rcases this with this | this
      · simp [this.1]
      · rcases this.2 with h | h | h <;> simp [h]
    obtain ⟨cq183, kq183, q183a, q183b, q183c⟩ := isOf hZ ej171 E151c
    obtain ⟨_, _, ⟨T183, L183, k183, n183⟩, -, X183, ⟨Lc183, hQ183, l183, y183, z183⟩, st183⟩ := Xj171.interfaceBack hx (xi := (⟨"com/example/bitstrata/bitstrata/Container", "runCount", "()I"⟩ : MethodName)) (y := (⟨"com/example/bitstrata/bitstrata/ArrayContainer", "runCount", "()I"⟩ : MethodName)) hown (mvT hZ (hw _ (List.mem_of_getElem? (i := 21) rfl))) (mvT hZ (hw _ (List.mem_of_getElem? (i := 22) rfl))) (mvT hZ (hw _ (List.mem_of_getElem? (i := 23) rfl))) (mvT hZ (hw _ (List.mem_of_getElem? (i := 24) rfl))) (mvT hZ (hw _ (List.mem_of_getElem? (i := 25) rfl))) (mvT hZ (hw _ (List.mem_of_getElem? (i := 26) rfl))) (mvT hZ (hw _ (List.mem_of_getElem? (i := 27) rfl))) (mvT hZ (hw _ (List.mem_of_getElem? (i := 28) rfl))) (by decide) (backOf (W := 0) (rmRun l Z a0 hw [] b7 u149 ku149 ys151 vs151 T151.heap n0 Zs154 Fv151 Fc151 V151u l2_151 pr151) hZ (hw _ (List.mem_of_getElem? (i := 29) rfl)) (hw _ (List.mem_of_getElem? (i := 2) rfl)) (by decide) (by decide)) q183a q183b q183c (g := (mkF m 279 #[iv i1, iv i2, iv i3, iv i4, iv i5, iv ca, iv cb, iv cc, iv cd, iv (4 : Int32), iv (1 : Int32), rv b7, iv ca, iv cb, iv cc, iv cd, iv e4] [(.ref b7)])) rfl (by rw [hml]; rfl) (Steps.refl _) (argsL := []) (rest := []) (lenOf pd_5 rfl) rfl (by show 2 * 0 + _ ≤ _; exact Nat.le_of_eq rfl) (hb hby at_279) (fun _ _ => ⟨rfl, ej171, (by decide : 2 + 0 ≤ _), (by decide : 6 + 0 ≤ _)⟩)
    dsimp only [Pt.U, Pt.locs, Pt.cells, Pt.slots] at X183 l183 y183 z183 st183 hQ183
    subst l183 y183 z183
    obtain ⟨rfl, N183q, e183q⟩ := hQ183
    have N183 := Fr.app Nj171 N183q
    have e183 : T183.heap = T151.heap := e183q
    have pre184 : ∀ tg, own_S p e below T183 m 294 #[iv i1, iv i2, iv i3, iv i4, iv i5, iv ca, iv cb, iv cc, iv cd, iv (4 : Int32), iv (1 : Int32), rv b7, iv ca, iv cb, iv cc, iv cd, iv e4] [(.int (1 : Int32))] tg → Steps p.tables e below (s₁.setTop (entryFrame m #[(.int i1), (.int i2), (.int i3), (.int i4), (.int i5)] maxLocals)) tg := fun tg k => prej171 tg (by
      show own_S p e below Tj171 m 277 #[iv i1, iv i2, iv i3, iv i4, iv i5, iv ca, iv cb, iv cc, iv cd, iv (4 : Int32), iv (1 : Int32), rv b7, iv ca, iv cb, iv cc, iv cd, iv e4] [] _
      refine XS.aload Xj171.here hx rfl (hb hby at_277) rfl rfl ?_
      refine st183.trans ?_
      refine XS.iload X183.here hx rfl (hb hby at_284) rfl ?_
      show own_S p e below T183 m 286 #[iv i1, iv i2, iv i3, iv i4, iv i5, iv ca, iv cb, iv cc, iv cd, iv (4 : Int32), iv (1 : Int32), rv b7, iv ca, iv cb, iv cc, iv cd, iv e4] [(.int e4), (.int (own_runs ys151))] _
      refine XS.icmpNo X183.here hx rfl (hb hby at_286) rfl (teq hfin).2 ?_
      refine XS.iconst X183.here hx rfl (hb hby at_289) ?_
      refine XS.goto X183.here hx rfl (pc0 := 290) (pc' := 294) rfl (hb hby at_290) (by decide) (by decide) ?_
      exact k)
    obtain ⟨fs, hr, hrun, hended, hW, hsame⟩ := X183.leave (v := some (.int (nar .boolean (1 : Int32)))) (fun h => by rw [Bd.returns] at h; cases h)
    refine ⟨_, _, pre184 _ ?_, hrun, hended, _, _, rfl, ?_, ⟨_, rfl⟩, hW, hsame.mono (by decide) (by decide)⟩
    · show own_S p e below T183 m 294 #[iv i1, iv i2, iv i3, iv i4, iv i5, iv ca, iv cb, iv cc, iv cd, iv (4 : Int32), iv (1 : Int32), rv b7, iv ca, iv cb, iv cc, iv cd, iv e4] [(.int (1 : Int32))] _
      exact retN X183 hx (t := .boolean) Bd.returns (by simp) (hb hby at_294) hr
    · show Q0 Z i1 i2 i3 i4 i5 h0 n0 _ T183.heap _
      rw [e183]
      exact ⟨rfl, N183⟩
set_option maxRecDepth 65536 in
set_option maxHeartbeats 40000000 in
theorem comes_1 {Post : Tables → Env → Array Value → State → Outcome → State → Prop} (hpost : ∀ tb e args s v u, (limb_1_1.after args s (.returned v) u = true ∧ limb_1_2.after args s (.returned v) u = true ∧ True) → FrameEnd s (.returned v) u (Jvm.fieldLocs frame_1_writes args s ++ Jvm.arrayLocs frame_1_arrays args s ++ Jvm.staticLocs frame_1_statics s) 16 128 → Post tb e args s (.returned v) u) :
    ArmFor flags0 classFile x code maxLocals ret World_1 tables_1 room_1 Calls_1 rest_1 Pre_1 Post := by
  intro l hfl _ _ p e ha hc hk s m args below hf hA hF happ hP
  obtain ⟨hcalls, hrest, hpre⟩ := hP
  obtain ⟨-, -, -, hnamed, -, -, -, hat⟩ := (Spec.applies_iff hf).mp happ
  obtain ⟨hg, hn⟩ := and_e (Cond.before_iff.mp (show (Jvm.Cond.and given_1 narrow_1).before args s = true from hpre))
  obtain ⟨g1, g2⟩ := and_e hg
  obtain ⟨g3, g4⟩ := and_e g2
  obtain ⟨g5, g6⟩ := and_e g4
  obtain ⟨g7, g8⟩ := and_e g6
  obtain ⟨g9, g10⟩ := and_e g8
  obtain ⟨w0, w1, w2, w3, w4, rfl⟩ : ∃ w0 w1 w2 w3 w4 : Value, args = #[w0, w1, w2, w3, w4] := by
    have hs : args.size = 5 := by simpa [Cond.value, given_1] using g1
    obtain ⟨L⟩ := args
    match L, hs with
    | [w0, w1, w2, w3, w4], _ => exact ⟨w0, w1, w2, w3, w4, rfl⟩
  have hw := fun d (hd : d ∈ tables_1) => atoms_spec (ws := Jvm.Cond.code x code maxLocals ret :: tables_1) hat d (List.mem_cons_of_mem _ hd)
  have hfit : Fit s := fun {y c} hc i hi => by
    obtain ⟨ha, rfl⟩ := Array.getElem?_eq_some_iff.mp hc
    have q := List.all_eq_true.mp ((Array.all_eq_true_iff_forall_mem.mp hF) _ (Array.getElem_mem ha)) i (List.mem_range.mpr hi)
    simpa [Array.getElem?_eq_getElem hi] using q
  obtain ⟨i0, ei0⟩ := is_v g3
  obtain rfl : w0 = (.int i0) := Option.some.inj ei0
  obtain ⟨i1, ei1⟩ := is_v g5
  obtain rfl : w1 = (.int i1) := Option.some.inj ei1
  obtain ⟨i2, ei2⟩ := is_v g7
  obtain rfl : w2 = (.int i2) := Option.some.inj ei2
  obtain ⟨i3, ei3⟩ := is_v g9
  obtain rfl : w3 = (.int i3) := Option.some.inj ei3
  obtain ⟨i4, ei4⟩ := is_v g10
  obtain rfl : w4 = (.int i4) := Option.some.inj ei4
  obtain ⟨n, o, h1, h2, h3, _, L, rfl, ⟨rfl, N⟩, hq⟩ := rm0 l s _ hw tables_1 i0 i1 i2 i3 i4 s.heap s.heap.size (Nat.le_refl _)  p e ha hc hk s m _ below hf ((Spec.applies_iff_loose hf).mp happ).1 ⟨rfl, State.Warmed39.refl s, rfl⟩ trivial
  refine ⟨n, _, h1, h2, h3, hpost _ _ _ _ _ _ ⟨Cond.after_iff.mpr rfl, Cond.after_iff.mpr (eq_i res_at (Term.int_eval (1)) rfl), trivial⟩ ⟨hq.1, hq.2.1, (hq.2.2.sift fun y hy => Or.inr (N y hy)).mono (by decide) (by decide)⟩⟩
theorem main_1_1 : Claimed_1_1 := comes_1 fun _ _ _ _ _ _ h hF => ⟨h.1, hF⟩
theorem main_1_2 : Claimed_1_2 := comes_1 fun _ _ _ _ _ _ h hF => ⟨h.2.1, hF⟩
end Jvm.Pilot.@@N@@
namespace Jvm.Pilot.@@N@@
open Jvm Jvm.ClassFile Sem Op Lib Jvm.Free Jvm.Stand Jvm.Pilot.@@N@@.Jvm.D
/-! MADE BY PROGRAM (witnessworld.py) out of the Statement's table words and the real class files: 14 classes; the members and pool entries that the words name. The judged class is class 1, her method 3. -/
namespace start1
open Jvm.ClassFile
def u (s : String) : CpInfo := .utf8 (stringToUtf16 s)
/-- a pool by its gaps: so many unusable entries, then the entry; so many at the end -/
def gap : Nat → List CpInfo → List CpInfo
  | 0, r => r
  | n + 1, r => .unusable :: gap n r
def poolList (es : List (Nat × CpInfo)) (last : Nat) : List CpInfo := es.foldr (fun e r => gap e.1 (e.2 :: r)) (gap last [])
def pool (es : List (Nat × CpInfo)) (last : Nat) : Array CpInfo := ⟨poolList es last⟩
def fileOf (pool : Array CpInfo) (this : Nat) (attrs : Array Attribute := #[]) (ms : Array MethodInfo := #[]) (fl : Nat := 33) (sup : Nat := 0) (ifs : Array Nat := #[]) (fds : Array FieldInfo := #[]) : ClassFile where
  minorVersion := 0
  majorVersion := 65
  constantPool := pool
  accessFlags := fl
  thisClass := this
  superClass := sup
  interfaces := ifs
  fields := fds
  methods := ms
  attributes := attrs
def plain (name : String) (sup : Option ClassId) : Class where
  name := name
  kind := .ordinary
  loader := none
  accessFlags := 33
  super := sup
  interfaces := #[]
  cf := none
  fields := #[]
  methods := #[]
  instanceTypes := #[]
  staticTypes := #[]
  resolved := #[]
  callSites := []
  init := .initialized
  statics := none
  mirror := none

def pool0 : Array CpInfo := pool [(5, u "<init>"), (0, u "()V"), (1, .class_ 10), (1, u "java/lang/Object")] 113

def k0c0 : Code := { maxStack := 0, maxLocals := 1, code := object_method_1_code, exceptionTable := #[], attributes := #[] }
def k0m0 : Method := { name := "<init>", desc := "()V", sig := { parameters := [], returnType := none }, accessFlags := 1, code := some k0c0 }
/-- java/lang/Object -/
def k0 : Class := { plain "java/lang/Object" none with
  accessFlags := 33
  interfaces := #[]
  cf := some (fileOf pool0 8 #[] #[{ accessFlags := 1, nameIndex := 5, descriptorIndex := 6, attributes := #[] }] 33 0 #[] #[])
  fields := #[]
  methods := #[k0m0]
  instanceTypes := #[]
  staticTypes := #[]
  resolved := Array.replicate 124 none
  statics := none }

def pool1 : Array CpInfo := pool [(2, .class_ 4), (1, u "java/lang/Object"), (0, u "<init>"), (0, u "()V"), (0, .methodref 8 9), (0, .class_ 10), (0, .nameAndType 11 12), (0, u "com/example/bitstrata/bitstrata/ArrayContainerRunCountPinLaw"), (0, u "member"), (0, u "(IIIIIIZ)Z"), (0, .class_ 14), (0, u "com/example/bitstrata/bitstrata/ArrayContainer"), (0, .methodref 13 16), (0, .nameAndType 5 17), (0, u "(C)V"), (0, .interfaceMethodref 19 20), (0, .class_ 21), (0, .nameAndType 22 23), (0, u "com/example/bitstrata/bitstrata/Container"), (0, u "add"), (0, u "(C)Lcom/example/bitstrata/bitstrata/Container;"), (0, .interfaceMethodref 19 25), (0, .nameAndType 26 23), (0, u "remove"), (0, .methodref 8 28), (0, .nameAndType 29 30), (0, u "starts"), (0, u "(IIIIIIZ)I"), (0, .interfaceMethodref 19 32), (0, .nameAndType 33 34), (0, u "runCount"), (0, u "()I"), (3, u "law"), (0, u "(IIIII)Z")] 2

def k1m0 : Method := { name := "<init>", desc := "()V", sig := { parameters := [], returnType := none }, accessFlags := 1, code := none }
def k1c1 : Code := { maxStack := 2, maxLocals := 7, code := method_2_code, exceptionTable := #[], attributes := #[] }
def k1m1 : Method := { name := "member", desc := "(IIIIIIZ)Z", sig := { parameters := [.int, .int, .int, .int, .int, .int, .boolean], returnType := some .boolean }, accessFlags := 10, code := some k1c1 }
def k1c2 : Code := { maxStack := 7, maxLocals := 7, code := method_3_code, exceptionTable := #[], attributes := #[] }
def k1m2 : Method := { name := "starts", desc := "(IIIIIIZ)I", sig := { parameters := [.int, .int, .int, .int, .int, .int, .boolean], returnType := some .int }, accessFlags := 10, code := some k1c2 }
def k1c3 : Code := { maxStack := 8, maxLocals := 17, code := code, exceptionTable := #[], attributes := #[] }
def k1m3 : Method := { name := "law", desc := "(IIIII)Z", sig := { parameters := [.int, .int, .int, .int, .int], returnType := some .boolean }, accessFlags := 9, code := some k1c3 }
/-- com/example/bitstrata/bitstrata/ArrayContainerRunCountPinLaw -/
def k1 : Class := { plain "com/example/bitstrata/bitstrata/ArrayContainerRunCountPinLaw" (some 0) with
  accessFlags := 49
  interfaces := #[]
  cf := some (fileOf pool1 8 #[] #[{ accessFlags := 1, nameIndex := 5, descriptorIndex := 6, attributes := #[] }, { accessFlags := 10, nameIndex := 11, descriptorIndex := 12, attributes := #[] }, { accessFlags := 10, nameIndex := 29, descriptorIndex := 30, attributes := #[] }, { accessFlags := 9, nameIndex := 38, descriptorIndex := 39, attributes := #[] }] 49 2 #[] #[])
  fields := #[]
  methods := #[k1m0, k1m1, k1m2, k1m3]
  instanceTypes := #[]
  staticTypes := #[]
  resolved := Array.replicate 42 none
  statics := none }

def pool2 : Array CpInfo := pool [(2, .class_ 4), (1, u "com/example/bitstrata/bitstrata/Container"), (0, u "runCount"), (0, u "()I"), (26, .class_ 34), (0, u "java/lang/Object"), (9, u "add"), (0, u "(C)Lcom/example/bitstrata/bitstrata/Container;"), (0, u "remove")] 24

def k2m0 : Method := { name := "runCount", desc := "()I", sig := { parameters := [], returnType := some .int }, accessFlags := 1025, code := none }
def k2m1 : Method := { name := "add", desc := "(C)Lcom/example/bitstrata/bitstrata/Container;", sig := { parameters := [.char], returnType := some (.object "com/example/bitstrata/bitstrata/Container") }, accessFlags := 1025, code := none }
def k2m2 : Method := { name := "remove", desc := "(C)Lcom/example/bitstrata/bitstrata/Container;", sig := { parameters := [.char], returnType := some (.object "com/example/bitstrata/bitstrata/Container") }, accessFlags := 1025, code := none }
/-- com/example/bitstrata/bitstrata/Container -/
def k2 : Class := { plain "com/example/bitstrata/bitstrata/Container" (some 0) with
  accessFlags := 1536
  interfaces := #[]
  cf := some (fileOf pool2 2 #[] #[{ accessFlags := 1025, nameIndex := 5, descriptorIndex := 6, attributes := #[] }, { accessFlags := 1025, nameIndex := 44, descriptorIndex := 45, attributes := #[] }, { accessFlags := 1025, nameIndex := 46, descriptorIndex := 45, attributes := #[] }] 1536 33 #[] #[])
  fields := #[]
  methods := #[k2m0, k2m1, k2m2]
  instanceTypes := #[]
  staticTypes := #[]
  resolved := Array.replicate 71 none
  statics := none }

def pool3 : Array CpInfo := pool [(1, .methodref 2 3), (0, .class_ 4), (0, .nameAndType 5 6), (0, u "java/lang/Object"), (0, u "<init>"), (0, u "()V"), (0, .class_ 8), (0, u "com/example/bitstrata/bitstrata/ArrayContainer"), (0, .fieldref 7 10), (0, .nameAndType 11 12), (0, u "values"), (0, u "[C"), (0, .fieldref 7 14), (0, .nameAndType 15 16), (0, u "cardinality"), (0, u "I"), (5, u "()I"), (28, .methodref 52 53), (0, .class_ 54), (0, .nameAndType 55 56), (0, u "java/util/Arrays"), (0, u "binarySearch"), (0, u "([CIIC)I"), (11, u "add"), (0, u "(C)Lcom/example/bitstrata/bitstrata/Container;"), (10, .methodref 81 82), (0, .class_ 83), (0, .nameAndType 84 85), (0, u "java/lang/System"), (0, u "arraycopy"), (0, u "(Ljava/lang/Object;ILjava/lang/Object;II)V"), (6, .class_ 93), (0, u "com/example/bitstrata/bitstrata/ArrayContainer$1"), (7, .class_ 102), (0, u "com/example/bitstrata/bitstrata/Container"), (8, u "MAX_CARDINALITY"), (2, u "INITIAL_CAPACITY"), (1, u "(C)V"), (9, u "runCount"), (8, u "remove")] 31

def k3c0 : Code := { maxStack := 3, maxLocals := 2, code := prog_1_method_1_code, exceptionTable := #[], attributes := #[] }
def k3m0 : Method := { name := "<init>", desc := "(C)V", sig := { parameters := [.char], returnType := none }, accessFlags := 0, code := some k3c0 }
def k3c1 : Code := { maxStack := 4, maxLocals := 3, code := prog_1_method_8_code, exceptionTable := #[], attributes := #[] }
def k3m1 : Method := { name := "runCount", desc := "()I", sig := { parameters := [], returnType := some .int }, accessFlags := 1, code := some k3c1 }
def k3c2 : Code := { maxStack := 6, maxLocals := 4, code := prog_1_method_15_code, exceptionTable := #[], attributes := #[] }
def k3m2 : Method := { name := "add", desc := "(C)Lcom/example/bitstrata/bitstrata/Container;", sig := { parameters := [.char], returnType := some (.object "com/example/bitstrata/bitstrata/Container") }, accessFlags := 1, code := some k3c2 }
def k3c3 : Code := { maxStack := 6, maxLocals := 3, code := prog_1_method_16_code, exceptionTable := #[], attributes := #[] }
def k3m3 : Method := { name := "remove", desc := "(C)Lcom/example/bitstrata/bitstrata/Container;", sig := { parameters := [.char], returnType := some (.object "com/example/bitstrata/bitstrata/Container") }, accessFlags := 1, code := some k3c3 }
/-- com/example/bitstrata/bitstrata/ArrayContainer -/
def k3 : Class := { plain "com/example/bitstrata/bitstrata/ArrayContainer" (some 0) with
  accessFlags := 48
  interfaces := #[2]
  cf := some (fileOf pool3 7 #[.nestMembers #[92]] #[{ accessFlags := 0, nameIndex := 5, descriptorIndex := 116, attributes := #[] }, { accessFlags := 1, nameIndex := 126, descriptorIndex := 22, attributes := #[] }, { accessFlags := 1, nameIndex := 68, descriptorIndex := 69, attributes := #[] }, { accessFlags := 1, nameIndex := 135, descriptorIndex := 69, attributes := #[] }] 48 2 #[101] #[{ accessFlags := 24, nameIndex := 111, descriptorIndex := 16, attributes := #[] }, { accessFlags := 26, nameIndex := 114, descriptorIndex := 16, attributes := #[] }, { accessFlags := 2, nameIndex := 11, descriptorIndex := 12, attributes := #[] }, { accessFlags := 2, nameIndex := 15, descriptorIndex := 16, attributes := #[] }])
  fields := #[{ name := "MAX_CARDINALITY", type := .int, accessFlags := 24, slot := 0, constantValue := 0 }, { name := "INITIAL_CAPACITY", type := .int, accessFlags := 26, slot := 1, constantValue := 0 }, { name := "values", type := (.array .char), accessFlags := 2, slot := 0, constantValue := 0 }, { name := "cardinality", type := .int, accessFlags := 2, slot := 1, constantValue := 0 }]
  methods := #[k3m0, k3m1, k3m2, k3m3]
  instanceTypes := #[(.array .char), .int]
  staticTypes := #[.int, .int]
  resolved := Array.replicate 167 none
  statics := none }

def pool4 : Array CpInfo := pool [(2, .class_ 4), (1, u "java/lang/Object"), (0, u "<init>"), (0, u "()V"), (6, .methodref 14 15), (0, .class_ 16), (0, .nameAndType 17 18), (0, u "java/util/Arrays"), (0, u "rangeCheck"), (0, u "(III)V"), (55, .class_ 76), (1, u "java/util/Arrays$NaturalOrder"), (36, .class_ 115), (1, u "java/util/Arrays$LegacyMergeSort"), (1, u "Z"), (89, u "binarySearch0"), (7, .methodref 14 216), (0, .nameAndType 207 217), (0, u "([CIIC)I"), (157, .class_ 376), (0, u "java/util/Arrays$ArrayList"), (68, u "$assertionsDisabled"), (269, u "MIN_ARRAY_SORT_GRAN"), (0, u "I"), (2, u "INSERTIONSORT_THRESHOLD"), (74, u "binarySearch"), (180, .class_ 976), (0, u "java/util/Arrays$ArrayItr")] 52

def k4m0 : Method := { name := "<init>", desc := "()V", sig := { parameters := [], returnType := none }, accessFlags := 2, code := none }
def k4c1 : Code := { maxStack := 4, maxLocals := 3, code := jdk_65_method_30_code, exceptionTable := #[], attributes := #[] }
def k4m1 : Method := { name := "rangeCheck", desc := "(III)V", sig := { parameters := [.int, .int, .int], returnType := none }, accessFlags := 8, code := some k4c1 }
def k4c2 : Code := { maxStack := 4, maxLocals := 4, code := jdk_65_method_64_code, exceptionTable := #[], attributes := #[] }
def k4m2 : Method := { name := "binarySearch", desc := "([CIIC)I", sig := { parameters := [(.array .char), .int, .int, .char], returnType := some .int }, accessFlags := 9, code := some k4c2 }
def k4c3 : Code := { maxStack := 2, maxLocals := 8, code := jdk_65_method_65_code, exceptionTable := #[], attributes := #[] }
def k4m3 : Method := { name := "binarySearch0", desc := "([CIIC)I", sig := { parameters := [(.array .char), .int, .int, .char], returnType := some .int }, accessFlags := 10, code := some k4c3 }
/-- java/util/Arrays -/
def k4 : Class := { plain "java/util/Arrays" (some 0) with
  accessFlags := 49
  interfaces := #[]
  cf := some (fileOf pool4 14 #[.nestMembers #[975, 375, 113, 74]] #[{ accessFlags := 2, nameIndex := 5, descriptorIndex := 6, attributes := #[] }, { accessFlags := 8, nameIndex := 17, descriptorIndex := 18, attributes := #[] }, { accessFlags := 9, nameIndex := 794, descriptorIndex := 217, attributes := #[] }, { accessFlags := 10, nameIndex := 207, descriptorIndex := 217, attributes := #[] }] 49 2 #[] #[{ accessFlags := 26, nameIndex := 715, descriptorIndex := 716, attributes := #[] }, { accessFlags := 26, nameIndex := 719, descriptorIndex := 716, attributes := #[] }, { accessFlags := 4120, nameIndex := 445, descriptorIndex := 117, attributes := #[] }])
  fields := #[{ name := "MIN_ARRAY_SORT_GRAN", type := .int, accessFlags := 26, slot := 0, constantValue := 0 }, { name := "INSERTIONSORT_THRESHOLD", type := .int, accessFlags := 26, slot := 1, constantValue := 0 }, { name := "$assertionsDisabled", type := .boolean, accessFlags := 4120, slot := 2, constantValue := 0 }]
  methods := #[k4m0, k4m1, k4m2, k4m3]
  instanceTypes := #[]
  staticTypes := #[.int, .int, .boolean]
  resolved := Array.replicate 1029 none
  statics := none }

def pool5 : Array CpInfo := pool [(2, .class_ 4), (1, u "java/lang/Object"), (0, u "<init>"), (0, u "()V"), (1, .class_ 10), (1, u "java/lang/System"), (0, u "allowSecurityManager"), (0, u "I"), (16, u "cons"), (0, u "Ljava/io/Console;"), (77, .class_ 110), (1, u "java/lang/System$CallersHolder"), (43, u "initialErrStream"), (0, u "Ljava/io/PrintStream;"), (19, u "security"), (0, u "Ljava/lang/SecurityManager;"), (31, .class_ 209), (0, u "java/lang/System$1"), (7, u "props"), (0, u "Ljava/util/Properties;"), (2, u "lineSeparator"), (0, u "Ljava/lang/String;"), (96, .class_ 321), (1, u "java/lang/System$LoggerFinder"), (5, .class_ 328), (0, u "java/lang/System$Logger"), (67, u "err"), (2, u "out"), (91, u "notSupportedJnuEncoding"), (15, u "in"), (17, u "initialIn"), (0, u "Ljava/io/InputStream;"), (35, u "bootLayer"), (0, u "Ljava/lang/ModuleLayer;"), (99, .class_ 664), (0, u "java/lang/System$2"), (9, u "NEVER"), (2, u "MAYBE"), (49, u "arraycopy"), (0, u "(Ljava/lang/Object;ILjava/lang/Object;II)V"), (72, .class_ 802), (0, u "java/lang/System$Logger$Level")] 31

def k5m0 : Method := { name := "<init>", desc := "()V", sig := { parameters := [], returnType := none }, accessFlags := 2, code := none }
def k5m1 : Method := { name := "arraycopy", desc := "(Ljava/lang/Object;ILjava/lang/Object;II)V", sig := { parameters := [(.object "java/lang/Object"), .int, (.object "java/lang/Object"), .int, .int], returnType := none }, accessFlags := 265, code := none }
/-- java/lang/System -/
def k5 : Class := { plain "java/lang/System" (some 0) with
  accessFlags := 49
  interfaces := #[]
  cf := some (fileOf pool5 8 #[.nestMembers #[319, 327, 801, 108, 663, 208]] #[{ accessFlags := 2, nameIndex := 5, descriptorIndex := 6, attributes := #[] }, { accessFlags := 265, nameIndex := 727, descriptorIndex := 728, attributes := #[] }] 49 2 #[] #[{ accessFlags := 25, nameIndex := 507, descriptorIndex := 526, attributes := #[] }, { accessFlags := 25, nameIndex := 399, descriptorIndex := 155, attributes := #[] }, { accessFlags := 25, nameIndex := 396, descriptorIndex := 155, attributes := #[] }, { accessFlags := 10, nameIndex := 525, descriptorIndex := 526, attributes := #[] }, { accessFlags := 26, nameIndex := 674, descriptorIndex := 12, attributes := #[] }, { accessFlags := 26, nameIndex := 677, descriptorIndex := 12, attributes := #[] }, { accessFlags := 10, nameIndex := 11, descriptorIndex := 12, attributes := #[] }, { accessFlags := 74, nameIndex := 175, descriptorIndex := 176, attributes := #[] }, { accessFlags := 10, nameIndex := 491, descriptorIndex := 222, attributes := #[] }, { accessFlags := 74, nameIndex := 29, descriptorIndex := 30, attributes := #[] }, { accessFlags := 74, nameIndex := 154, descriptorIndex := 155, attributes := #[] }, { accessFlags := 10, nameIndex := 217, descriptorIndex := 218, attributes := #[] }, { accessFlags := 10, nameIndex := 221, descriptorIndex := 222, attributes := #[] }, { accessFlags := 8, nameIndex := 562, descriptorIndex := 563, attributes := #[] }])
  fields := #[{ name := "in", type := (.object "java/io/InputStream"), accessFlags := 25, slot := 0, constantValue := 0 }, { name := "out", type := (.object "java/io/PrintStream"), accessFlags := 25, slot := 1, constantValue := 0 }, { name := "err", type := (.object "java/io/PrintStream"), accessFlags := 25, slot := 2, constantValue := 0 }, { name := "initialIn", type := (.object "java/io/InputStream"), accessFlags := 10, slot := 3, constantValue := 0 }, { name := "NEVER", type := .int, accessFlags := 26, slot := 4, constantValue := 0 }, { name := "MAYBE", type := .int, accessFlags := 26, slot := 5, constantValue := 0 }, { name := "allowSecurityManager", type := .int, accessFlags := 10, slot := 6, constantValue := 0 }, { name := "security", type := (.object "java/lang/SecurityManager"), accessFlags := 74, slot := 7, constantValue := 0 }, { name := "notSupportedJnuEncoding", type := (.object "java/lang/String"), accessFlags := 10, slot := 8, constantValue := 0 }, { name := "cons", type := (.object "java/io/Console"), accessFlags := 74, slot := 9, constantValue := 0 }, { name := "initialErrStream", type := (.object "java/io/PrintStream"), accessFlags := 74, slot := 10, constantValue := 0 }, { name := "props", type := (.object "java/util/Properties"), accessFlags := 10, slot := 11, constantValue := 0 }, { name := "lineSeparator", type := (.object "java/lang/String"), accessFlags := 10, slot := 12, constantValue := 0 }, { name := "bootLayer", type := (.object "java/lang/ModuleLayer"), accessFlags := 8, slot := 13, constantValue := 0 }]
  methods := #[k5m0, k5m1]
  instanceTypes := #[]
  staticTypes := #[(.object "java/io/InputStream"), (.object "java/io/PrintStream"), (.object "java/io/PrintStream"), (.object "java/io/InputStream"), .int, .int, .int, (.object "java/lang/SecurityManager"), (.object "java/lang/String"), (.object "java/io/Console"), (.object "java/io/PrintStream"), (.object "java/util/Properties"), (.object "java/lang/String"), (.object "java/lang/ModuleLayer")]
  resolved := Array.replicate 834 none
  statics := none }

def pool6 : Array CpInfo := pool [(1, u "java/lang/Cloneable"), (0, .class_ 1), (0, u "java/lang/Object"), (0, .class_ 3)] 3

/-- java/lang/Cloneable -/
def k6 : Class := { plain "java/lang/Cloneable" (some 0) with
  accessFlags := 1537
  interfaces := #[]
  cf := some (fileOf pool6 2 #[] #[] 1537 4 #[] #[])
  fields := #[]
  methods := #[]
  instanceTypes := #[]
  staticTypes := #[]
  resolved := Array.replicate 8 none
  statics := none }

def pool7 : Array CpInfo := pool [(1, u "java/io/Serializable"), (0, .class_ 1), (0, u "java/lang/Object"), (0, .class_ 3)] 3

/-- java/io/Serializable -/
def k7 : Class := { plain "java/io/Serializable" (some 0) with
  accessFlags := 1537
  interfaces := #[]
  cf := some (fileOf pool7 2 #[] #[] 1537 4 #[] #[])
  fields := #[]
  methods := #[]
  instanceTypes := #[]
  staticTypes := #[]
  resolved := Array.replicate 8 none
  statics := none }

/-- the primitive byte -/
def k8 : Class := { plain "byte" none with kind := .primitive 'B', accessFlags := 0x411 }
/-- [B -/
def k9 : Class := { plain "[B" (some 0) with kind := .array 8 .byte, interfaces := #[6, 7], accessFlags := 1041 }

/-- the primitive char -/
def k10 : Class := { plain "char" none with kind := .primitive 'C', accessFlags := 0x411 }
/-- [C -/
def k11 : Class := { plain "[C" (some 0) with kind := .array 10 .char, interfaces := #[6, 7], accessFlags := 1041 }

/-- the primitive int -/
def k12 : Class := { plain "int" none with kind := .primitive 'I', accessFlags := 0x411 }
/-- [I -/
def k13 : Class := { plain "[I" (some 0) with kind := .array 12 .int, interfaces := #[6, 7], accessFlags := 1041 }

def heap : Heap := #[]
def classes : Array Class := #[k0, k1, k2, k3, k4, k5, k6, k7, k8, k9, k10, k11, k12, k13]
def interned : List (Array UInt16 × Addr) := []
def slotsUsed : Nat := 0
def theMethod : MethodId := ⟨1, 3⟩
def args0 : Array Value := #[.int 1, .int 2, .int 3, .int 4, .int 5]
def aboutOver (below : List Frame) : State where
  vm := { classes := classes, interned := interned.toArray }
  heap := heap
  slotsUsed := slotsUsed
  threads := #[{ frames := .invoking theMethod args0 :: below }]
def below0 : List Frame := [.native { method := ⟨0, 0⟩, args := #[] }]
def about1 : State := aboutOver below0
def p0 : Program := .bare "" "" ""
def e0 : Env := launch0.env 0 0 0
theorem w_frames : about1.frames = Frame.invoking theMethod args0 :: below0 := rfl
set_option maxRecDepth 65536 in
theorem w_args : argsFit about1.vm theMethod args0 = true := by decide +kernel
set_option maxRecDepth 65536 in
theorem w_heap : heapFits about1 = true := by decide +kernel
set_option maxRecDepth 65536 in
theorem w_runnable : about1.curStatus? = some .runnable := by decide +kernel
set_option maxRecDepth 65536 in
theorem w_alone : about1.alone = true := by decide +kernel
set_option maxRecDepth 65536 in
theorem w_named : about1.methodNamed? x = some theMethod := by decide +kernel
set_option maxRecDepth 65536 in
theorem w_hears : about1.hears theMethod below0 = true := by decide +kernel
set_option maxRecDepth 65536 in
theorem w_ripe : about1.ripe theMethod args0 below0 = true := by decide +kernel
theorem w_running : about1.status = .running := rfl
set_option maxRecDepth 65536 in
theorem w_room : about1.hasRoom e0.platform room_1 = true :=
  launch0.hasRoom_least _ room_1 (by decide +kernel) (by decide +kernel) (by decide +kernel) (by decide +kernel) (by decide +kernel) (by decide +kernel)
theorem allAtoms_all (ts : List Jvm.Cond) (a : Array Jvm.Value) (st : Jvm.State) : (allAtoms ts).before a st = ts.all (fun c => c.before a st) := by
  induction ts with
  | nil => rfl
  | cons c t ih =>
    show (Jvm.Cond.and c (allAtoms t)).before a st = _
    rw [Jvm.Cond.before_and, ih, List.all_cons]
def words1 : List Jvm.Cond := Jvm.Cond.code x code maxLocals ret :: tables_1
/-- a 'code' word, met by the world's own term for the bytes: nothing is compared byte by byte -/
theorem code_word {y : MethodName} {bytes : ByteArray} {mx : Nat} {rt : Option FieldType} {a : Array Value} {s : State} {m : MethodId} {meth : Method} {c : Code} (h1 : s.methodNamed? y = some m) (h2 : s.vm.method? m = some meth) (h3 : meth.code = some c) (h4 : c.code = bytes)
    (h5 : (c.maxLocals == mx && c.exceptionTable.isEmpty && decide (c.maxStack ≤ mostOperands) && decide (meth.sig.returnType = rt) && !meth.locks && decide (parseMethodDescriptor y.desc = some meth.sig)) = true) : (Jvm.Cond.code y bytes mx rt).before a s = true := by
  simp only [Bool.and_eq_true, beq_iff_eq, Bool.not_eq_true', decide_eq_true_eq] at h5
  obtain ⟨⟨⟨⟨⟨g1, g2⟩, g3⟩, g4⟩, g5⟩, g6⟩ := h5
  simp [Cond.before, Cond.holds, Cond.value, h1, h2, h3, h4, g1, g2, g3, g4, g5, g6]
def isCode : Jvm.Cond → Bool
  | .code _ _ _ _ => true
  | _ => false
theorem all_split {L : List Jvm.Cond} {P : Jvm.Cond → Bool} (h1 : L.all (fun c => isCode c || P c) = true) (h2 : ∀ c ∈ L.filter isCode, P c = true) : L.all P = true := by
  refine List.all_eq_true.mpr fun c hc => ?_
  have h := List.all_eq_true.mp h1 c hc
  rcases Bool.eq_false_or_eq_true (isCode c) with hi | hi
  · exact h2 c (List.mem_filter.mpr ⟨hc, hi⟩)
  · simpa [hi] using h
set_option maxRecDepth 65536 in
theorem w_c0 : (Jvm.Cond.code x code maxLocals ret).before args0 about1 = true := code_word (m := ⟨1, 3⟩) (meth := k1m3) (c := k1c3) (by decide +kernel) rfl rfl rfl (by decide +kernel)
set_option maxRecDepth 65536 in
theorem w_c1 : (Jvm.Cond.code ({ cls := "com/example/bitstrata/bitstrata/ArrayContainer", name := "<init>", desc := "(C)V" } : Jvm.MethodName) prog_1_method_1_code (2 : Nat) (Option.none : Option Jvm.ClassFile.FieldType)).before args0 about1 = true := code_word (m := ⟨3, 0⟩) (meth := k3m0) (c := k3c0) (by decide +kernel) rfl rfl rfl (by decide +kernel)
set_option maxRecDepth 65536 in
theorem w_c2 : (Jvm.Cond.code ({ cls := "java/lang/Object", name := "<init>", desc := "()V" } : Jvm.MethodName) object_method_1_code (1 : Nat) (Option.none : Option Jvm.ClassFile.FieldType)).before args0 about1 = true := code_word (m := ⟨0, 0⟩) (meth := k0m0) (c := k0c0) (by decide +kernel) rfl rfl rfl (by decide +kernel)
set_option maxRecDepth 65536 in
theorem w_c3 : (Jvm.Cond.code ({ cls := "com/example/bitstrata/bitstrata/ArrayContainerRunCountPinLaw", name := "starts", desc := "(IIIIIIZ)I" } : Jvm.MethodName) method_3_code (7 : Nat) (Option.some Jvm.ClassFile.FieldType.int)).before args0 about1 = true := code_word (m := ⟨1, 2⟩) (meth := k1m2) (c := k1c2) (by decide +kernel) rfl rfl rfl (by decide +kernel)
set_option maxRecDepth 65536 in
theorem w_c4 : (Jvm.Cond.code ({ cls := "com/example/bitstrata/bitstrata/ArrayContainerRunCountPinLaw", name := "member", desc := "(IIIIIIZ)Z" } : Jvm.MethodName) method_2_code (7 : Nat) (Option.some Jvm.ClassFile.FieldType.boolean)).before args0 about1 = true := code_word (m := ⟨1, 1⟩) (meth := k1m1) (c := k1c1) (by decide +kernel) rfl rfl rfl (by decide +kernel)
set_option maxRecDepth 65536 in
theorem w_c5 : (Jvm.Cond.code ({ cls := "com/example/bitstrata/bitstrata/ArrayContainer", name := "runCount", desc := "()I" } : Jvm.MethodName) prog_1_method_8_code (3 : Nat) (Option.some Jvm.ClassFile.FieldType.int)).before args0 about1 = true := code_word (m := ⟨3, 1⟩) (meth := k3m1) (c := k3c1) (by decide +kernel) rfl rfl rfl (by decide +kernel)
set_option maxRecDepth 65536 in
theorem w_c6 : (Jvm.Cond.code ({ cls := "com/example/bitstrata/bitstrata/ArrayContainer", name := "add", desc := "(C)Lcom/example/bitstrata/bitstrata/Container;" } : Jvm.MethodName) prog_1_method_15_code (4 : Nat) (Option.some (Jvm.ClassFile.FieldType.object "com/example/bitstrata/bitstrata/Container"))).before args0 about1 = true := code_word (m := ⟨3, 2⟩) (meth := k3m2) (c := k3c2) (by decide +kernel) rfl rfl rfl (by decide +kernel)
set_option maxRecDepth 65536 in
theorem w_c7 : (Jvm.Cond.code ({ cls := "java/util/Arrays", name := "binarySearch", desc := "([CIIC)I" } : Jvm.MethodName) jdk_65_method_64_code (4 : Nat) (Option.some Jvm.ClassFile.FieldType.int)).before args0 about1 = true := code_word (m := ⟨4, 2⟩) (meth := k4m2) (c := k4c2) (by decide +kernel) rfl rfl rfl (by decide +kernel)
set_option maxRecDepth 65536 in
theorem w_c8 : (Jvm.Cond.code ({ cls := "java/util/Arrays", name := "rangeCheck", desc := "(III)V" } : Jvm.MethodName) jdk_65_method_30_code (3 : Nat) (Option.none : Option Jvm.ClassFile.FieldType)).before args0 about1 = true := code_word (m := ⟨4, 1⟩) (meth := k4m1) (c := k4c1) (by decide +kernel) rfl rfl rfl (by decide +kernel)
set_option maxRecDepth 65536 in
theorem w_c9 : (Jvm.Cond.code ({ cls := "java/util/Arrays", name := "binarySearch0", desc := "([CIIC)I" } : Jvm.MethodName) jdk_65_method_65_code (8 : Nat) (Option.some Jvm.ClassFile.FieldType.int)).before args0 about1 = true := code_word (m := ⟨4, 3⟩) (meth := k4m3) (c := k4c3) (by decide +kernel) rfl rfl rfl (by decide +kernel)
set_option maxRecDepth 65536 in
theorem w_c10 : (Jvm.Cond.code ({ cls := "com/example/bitstrata/bitstrata/ArrayContainer", name := "remove", desc := "(C)Lcom/example/bitstrata/bitstrata/Container;" } : Jvm.MethodName) prog_1_method_16_code (3 : Nat) (Option.some (Jvm.ClassFile.FieldType.object "com/example/bitstrata/bitstrata/Container"))).before args0 about1 = true := code_word (m := ⟨3, 3⟩) (meth := k3m3) (c := k3c3) (by decide +kernel) rfl rfl rfl (by decide +kernel)
def codes1 : List Jvm.Cond := [Jvm.Cond.code x code maxLocals ret, Jvm.Cond.code ({ cls := "com/example/bitstrata/bitstrata/ArrayContainer", name := "<init>", desc := "(C)V" } : Jvm.MethodName) prog_1_method_1_code (2 : Nat) (Option.none : Option Jvm.ClassFile.FieldType), Jvm.Cond.code ({ cls := "java/lang/Object", name := "<init>", desc := "()V" } : Jvm.MethodName) object_method_1_code (1 : Nat) (Option.none : Option Jvm.ClassFile.FieldType), Jvm.Cond.code ({ cls := "com/example/bitstrata/bitstrata/ArrayContainerRunCountPinLaw", name := "starts", desc := "(IIIIIIZ)I" } : Jvm.MethodName) method_3_code (7 : Nat) (Option.some Jvm.ClassFile.FieldType.int), Jvm.Cond.code ({ cls := "com/example/bitstrata/bitstrata/ArrayContainerRunCountPinLaw", name := "member", desc := "(IIIIIIZ)Z" } : Jvm.MethodName) method_2_code (7 : Nat) (Option.some Jvm.ClassFile.FieldType.boolean), Jvm.Cond.code ({ cls := "com/example/bitstrata/bitstrata/ArrayContainer", name := "runCount", desc := "()I" } : Jvm.MethodName) prog_1_method_8_code (3 : Nat) (Option.some Jvm.ClassFile.FieldType.int), Jvm.Cond.code ({ cls := "com/example/bitstrata/bitstrata/ArrayContainer", name := "add", desc := "(C)Lcom/example/bitstrata/bitstrata/Container;" } : Jvm.MethodName) prog_1_method_15_code (4 : Nat) (Option.some (Jvm.ClassFile.FieldType.object "com/example/bitstrata/bitstrata/Container")), Jvm.Cond.code ({ cls := "java/util/Arrays", name := "binarySearch", desc := "([CIIC)I" } : Jvm.MethodName) jdk_65_method_64_code (4 : Nat) (Option.some Jvm.ClassFile.FieldType.int), Jvm.Cond.code ({ cls := "java/util/Arrays", name := "rangeCheck", desc := "(III)V" } : Jvm.MethodName) jdk_65_method_30_code (3 : Nat) (Option.none : Option Jvm.ClassFile.FieldType), Jvm.Cond.code ({ cls := "java/util/Arrays", name := "binarySearch0", desc := "([CIIC)I" } : Jvm.MethodName) jdk_65_method_65_code (8 : Nat) (Option.some Jvm.ClassFile.FieldType.int), Jvm.Cond.code ({ cls := "com/example/bitstrata/bitstrata/ArrayContainer", name := "remove", desc := "(C)Lcom/example/bitstrata/bitstrata/Container;" } : Jvm.MethodName) prog_1_method_16_code (3 : Nat) (Option.some (Jvm.ClassFile.FieldType.object "com/example/bitstrata/bitstrata/Container"))]
set_option maxRecDepth 65536 in
theorem codes_eq : words1.filter isCode = codes1 := rfl
theorem w_codes : ∀ c ∈ words1.filter isCode, c.before args0 about1 = true := by
  rw [codes_eq]
  intro c hc
  simp only [codes1, List.mem_cons, List.not_mem_nil, or_false] at hc
  rcases hc with rfl | rfl | rfl | rfl | rfl | rfl | rfl | rfl | rfl | rfl | rfl
  · exact w_c0
  · exact w_c1
  · exact w_c2
  · exact w_c3
  · exact w_c4
  · exact w_c5
  · exact w_c6
  · exact w_c7
  · exact w_c8
  · exact w_c9
  · exact w_c10
set_option maxRecDepth 65536 in
theorem w_t1 : (words1.take 24).all (fun c => isCode c || c.before args0 about1) = true := by decide +kernel
set_option maxRecDepth 65536 in
theorem w_t2 : ((words1.drop 24).take 24).all (fun c => isCode c || c.before args0 about1) = true := by decide +kernel
set_option maxRecDepth 65536 in
theorem w_t3 : ((words1.drop 24).drop 24).all (fun c => isCode c || c.before args0 about1) = true := by decide +kernel
theorem w_tables : (allAtoms (Jvm.Cond.code x code maxLocals ret :: tables_1)).before args0 about1 = true := by
  rw [allAtoms_all]
  show words1.all (fun c => c.before args0 about1) = true
  refine all_split ?_ w_codes
  rw [← List.take_append_drop 24 words1, List.all_append, w_t1, ← List.take_append_drop 24 (words1.drop 24), List.all_append, w_t2, w_t3]
  rfl
set_option maxRecDepth 65536 in
theorem w_case : (Jvm.Cond.and given_1 narrow_1).before args0 about1 = true := by decide +kernel
theorem w_applies : (headSpec (Jvm.Cond.code x code maxLocals ret :: tables_1) room_1).applies x e0.platform about1 = true :=
  (Spec.applies_iff w_frames).mpr ⟨w_running, w_runnable, w_alone, w_named, w_hears, w_ripe, w_room, w_tables⟩
theorem atStart : AtStart classFile x code maxLocals ret World_1 tables_1 room_1 Calls_1 rest_1 Pre_1 launch0 p0 e0 about1 theMethod args0 below0 :=
  ⟨lists_1, trivial, launch0.admits_env _ _ _, launch0.least_env, fairChoices_fair.cas, fairChoices_fair.clock, w_frames, w_args, w_heap, w_applies, trivial, trivial, w_case⟩
end start1
theorem witness_1 : WitnessClaimed_1 := ⟨start1.p0, start1.e0, start1.about1, start1.theMethod, start1.args0, start1.below0, start1.atStart⟩
end Jvm.Pilot.@@N@@
